/-
  THE WALK OF 'FnSealStructHeadReadsBack'.
-/
import Derived.Test.Qxb6604716aCallees
namespace Go.Proofs.Qxb6604716a
open Go.RowKit
set_option linter.unusedVariables false

theorem u8_and127 (x : Int) (h0 : 0 ≤ x) (h1 : x < 256) : bits .and .u8 x 127 = x % 128 := bits_mask .u8 8 (by decide) wraps_u8 7 (by decide) x h0 h1
theorem ub_and {n k : Nat} (hn : n < 2097152) (hk : k < un n) : bits .and .u8 (ub n k : Int) 127 = ((uq n k % 128 : Nat) : Int) := by
  have hl := ub_lt hn hk
  rw [u8_and127 _ (by omega) (by omega)]
  by_cases h : k + 1 < un n
  · rw [ub_more h]; omega
  · rw [ub_last h]; omega
theorem ub_small {n k : Nat} (hn : n < 2097152) (hk : k < un n) : (ub n k : Int) < 128 ↔ k + 1 = un n := by
  have hm := uq_more hn hk
  by_cases h : k + 1 < un n
  · rw [ub_more h]; omega
  · rw [ub_last h]; omega

theorem or_step (n k : Nat) (hk : k ≤ 2) : bits .or .u64 (lo n k : Int) ((uq n k % 128 * 128 ^ k : Nat) : Int) = (lo n (k + 1) : Int) := by
  have hl := lo_lt n k
  have hp : 128 ^ k ≤ 16384 := by
    have := Nat.pow_le_pow_right (n := 128) (by decide) hk
    simpa using this
  have hm : uq n k % 128 * 128 ^ k ≤ 127 * 16384 := Nat.mul_le_mul (by omega) hp
  rw [bits_or_u64_nat _ _ (by omega) (by omega), lo_succ]
  have e : (128 : Nat) ^ k = 2 ^ (7 * k) := by rw [Nat.pow_mul]
  rw [e] at hl ⊢
  rw [Nat.or_comm, Nat.mul_comm, ← Nat.two_pow_add_eq_or_of_lt hl, Nat.add_comm]
theorem or0 (n : Nat) : bits .or .u64 0 ((uq n 0 : Int) % 128) = (lo n 1 : Int) := by
  have := or_step n 0 (by decide)
  rw [lo_zero] at this
  simpa using this
theorem or1 (n : Nat) : bits .or .u64 (lo n 1 : Int) ((uq n 1 : Int) % 128 * 128) = (lo n 2 : Int) := by simpa using or_step n 1 (by decide)
theorem or2 (n : Nat) : bits .or .u64 (lo n 2 : Int) ((uq n 2 : Int) % 128 * 16384) = (lo n 3 : Int) := by simpa using or_step n 2 (by decide)

set_option maxHeartbeats 4000000 in
set_option maxRecDepth 100000 in
theorem read_main (b off L c s n : Nat) (X : Nat → Int) (w : World) (hL : L ≤ 1048576) (hs : s < L) (hn : n + s + 1 = L)
    (hr : ∀ i, i < L → w.cell? ⟨b, off + i, none⟩ = some (.int .u8 (X i))) :
    Calls Try.prog 5 #[.slice (some ⟨b, off, none⟩) L c, .int .i64 s] w fun e w' => e = .returned (.bool true) ∧ Below w.heap.size w w' := by
  have HR : Hid (∀ i, i < L → w.cell? ⟨b, off + i, none⟩ = some (.int .u8 (X i))) := hr
  clear hr
  have h1 : ¬ (1048576 : Int) < (L : Int) := by omega
  have h2 : (s : Int) < (L : Int) := by omega
  have hun := un_pos n
  have hun3 := un_le n
  go_enter Try.func5, Try.ntmps5
  go_wp2_with fail
  refine (bytes20 _ _ _ _ _ hL).mono ?_
  rintro e w' ⟨rfl, hw⟩
  subst w'
  go_wp2_with fail
  refine (clone7 b off L c X w hL (by omega) HR.out).mono ?_
  rintro e w1 ⟨rfl, hrow1, hsz1, hk1⟩
  have R1 : Hid (w1.rowIs w.heap.size 5 L (fun j => .int .u8 (X j))) := hrow1
  have K1 : Hid (Kept (fun _ => False) w w1) := hk1
  clear hrow1 hk1 HR
  go_wp2_with fail
  refine (clone7 w.heap.size 0 L L X w1 hL (by omega) (fun i hi => by rw [Nat.zero_add]; exact R1.out.cell hi)).mono ?_
  rintro e w2 ⟨rfl, hrow2, hsz2, hk2⟩
  have R2 : Hid (w2.rowIs w1.heap.size 5 L (fun j => .int .u8 (X j))) := hrow2
  have R1' : Hid (w2.rowIs w.heap.size 5 L (fun j => .int .u8 (X j))) := R1.out.of_block (hk2.block _ (by omega) (fun h => h))
  have K2 : Hid (Kept (fun _ => False) w w2) := K1.out.trans hk2 (fun _ _ h => h) (fun _ _ h => h)
  clear hrow2 hk2 R1 K1
  rw [hsz1] at hsz2
  go_wp2_with fail
  refine (newPacker15 _ _ _ _).mono ?_
  rintro e w3 ⟨rfl, hp3, hf3, hsz3, hk3⟩
  rw [hsz2] at hsz3 hp3 hf3
  rw [hsz1] at R2
  have R2' : Hid (w3.rowIs (w.heap.size + 1) 5 L (fun j => .int .u8 (X j))) := R2.out.of_block (hk3.block _ (by omega) (fun h => h))
  have R1'' : Hid (w3.rowIs w.heap.size 5 L (fun j => .int .u8 (X j))) := R1'.out.of_block (hk3.block _ (by omega) (fun h => h))
  have K3 : Hid (Kept (fun _ => False) w w3) := K2.out.trans hk3 (fun _ _ h => h) (fun _ _ h => h)
  have P3 : Hid (w3.cell? ⟨w.heap.size + 1 + 1, 0, none⟩ = some (.slice (some ⟨w.heap.size, 0, none⟩) L L)) := hp3
  have F3 : Hid (w3.frozen? ⟨w.heap.size + 1 + 1, 0, none⟩ = false) := hf3
  clear hk3 hp3 hf3 R1' R2 K2
  go_wp2_with fail
  refine (newStruct17 _ _).mono ?_
  rintro e w4 ⟨rfl, hst4, hsz4, hk4⟩
  rw [hsz3] at hsz4 hst4
  go_wp2_with fail
  have hOB : ¬ (w.heap.size + 1 + 1 = w.heap.size) := by omega
  refine (zzSeal16 (w.heap.size + 1 + 1) (w.heap.size + 1 + 1 + 1) w.heap.size L s n X w4 hL hs hn (hk4.cell P3.out (fun h => h))
    (by rw [World.frozen?_of_block (w := w3) (hk4.block (w.heap.size + 1 + 1) (by omega) (fun h => h))]; exact F3.out) hst4 hOB (R1''.out.of_block (hk4.block _ (by omega) (fun h => h)))).mono ?_
  rintro e w5 ⟨rfl, g, cap, hp5, hP5, hk5⟩
  obtain ⟨G, hG⟩ : ∃ G, L + un n - 1 = G := ⟨_, rfl⟩
  rw [hG] at hp5 hP5
  have hG1 : L ≤ G := by omega
  have hG2 : G ≤ L + 2 := by omega
  have HG : Hid (L + un n = G + 1) := (by omega : L + un n = G + 1)
  have P5 : Hid (Pre w5 g G (sealed X s n)) := hP5
  have B5 : Hid (∀ i, i < L → w5.cell? ⟨w.heap.size + 1, i, none⟩ = some (.int .u8 (X i))) := fun i hi => hk5.cell (hk4.cell (R2'.out.cell hi) (fun h => h)) (by simp)
  have K5 : Hid (Below w.heap.size w w5) := ((K3.out.trans (hk4.trans hk5 (U := fun k => k = w.heap.size + 1 + 1 ∨ k = w.heap.size) (fun _ _ h => h.elim) (fun _ _ h => h)) (U := fun k => k = w.heap.size + 1 + 1 ∨ k = w.heap.size) (fun _ _ h => h.elim) (fun _ _ h => h)).below (Nat.le_refl _) (fun k h => by omega))
  clear hP5 hk5 hk4 hst4 hG K3 P3 F3 R2' R1'' hsz1 hsz2 hsz3 hsz4 hOB
  go_wp2_with fail
  refine (packerOut19 _ _ _ _ _ hp5).mono ?_
  rintro e w' ⟨rfl, hw⟩
  subst w'
  clear hp5
  have hlen : (s : Int) + 1 ≤ (G : Int) := by omega
  go_wp2_with fail
  go_loopw [8] (fun i wr => ∃ k : Nat, k ≤ s ∧ i = .int .i64 k ∧ Hid (∃ q, wr = w5.drewN q)) (fun i _ => s - (intOf i).toNat)
  case atStart => exact ⟨0, Nat.zero_le _, rfl, 0, rfl⟩
  case round =>
    obtain ⟨j, hj, rfl, hw⟩ := hrel
    obtain ⟨q, rfl⟩ := hw.out
    by_cases hlt : j < s
    · have c1 : w5.cell? ⟨g, j, none⟩ = some (.int .u8 (X j)) := by rw [P5.out.cell (by omega), sealed, if_pos hlt]
      have c2 : w5.cell? ⟨w.heap.size + 1, j, none⟩ = some (.int .u8 (X j)) := B5.out j (by omega)
      have i1 : (j : Int) < (G : Int) := by omega
      have i2 : (j : Int) < (L : Int) := by omega
      go_wp2
      go_quiet (fail)
      go_wp2
      go_roundw
      case rel => exact ⟨j + 1, by omega, by go_num, q + nq, by simp⟩
      case measure => simp [intOf]; omega
    · go_wp2
      generalize hq0 : w5.drewN q = w6
      have P6 : Hid (Pre w6 g G (sealed X s n)) := by subst hq0; exact P5.out
      have B6 : Hid (∀ i, i < L → w6.cell? ⟨w.heap.size + 1, i, none⟩ = some (.int .u8 (X i))) := by subst hq0; exact B5.out
      have K6 : Hid (Below w.heap.size w w6) := by subst hq0; exact K5.out.trans ⟨rfl, rfl, rfl, Nat.le_refl _, fun _ _ => rfl⟩
      clear hq0 P5 B5 K5 hw hlt hj
      go_loop [9, 10, 11, 12] (fun s9 s10 s11 s12 => ∃ (k : Nat) (d : Bool), k ≤ un n ∧ s9 = .int .u64 (lo n k) ∧ s10 = .int .i64 k ∧ s11 = .bool d ∧ Hid (d = false → k < un n) ∧ Hid (d = true → k = un n)) (fun _ s10 _ _ => 10 - (intOf s10).toNat)
      case atStart => exact ⟨0, false, by omega, by rw [lo_zero]; rfl, rfl, rfl, (fun _ => by omega), (fun h => by cases h)⟩
      case round =>
        obtain ⟨k, d, hk, rfl, rfl, rfl, D0, D1⟩ := hrel
        cases d with
        | false =>
          have hku := D0.out rfl
          clear D0 D1
          have c1 : w6.cell? ⟨g, s + k, none⟩ = some (.int .u8 (ub n k)) := by
            rw [P6.out.cell (by have := HG.out; omega), sealed, if_neg (by omega), if_pos (by omega), show s + k - s = k by omega]
          have i1 : (s : Int) + (k : Int) < (G : Int) := by have := HG.out; omega
          have hand : bits .and .u8 (ub n k : Int) 127 = (uq n k % 128 : Nat) := ub_and (by omega) hku
          have hb128 : (ub n k : Int) < 128 ↔ k + 1 = un n := ub_small (by omega) hku
          obtain rfl | rfl | rfl : k = 0 ∨ k = 1 ∨ k = 2 := by omega
          · have c1' : w6.cell? ⟨g, s, none⟩ = some (.int .u8 (ub n 0)) := c1
            have i1' : (s : Int) < (G : Int) := by omega
            have hor := or0 n
            clear c1 i1
            rw [lo_zero]
            go_wp2
            go_round
            case rel => exact ⟨1, _, by omega, rfl, rfl, rfl, (fun h => by have := of_decide_eq_false h; omega), (fun h => of_decide_eq_true h)⟩
            case measure => simp [intOf]
          · have i1' : (s : Int) + 1 < (G : Int) := by omega
            have hor := or1 n
            clear i1
            go_wp2
            go_round
            case rel => exact ⟨2, _, by omega, rfl, rfl, rfl, (fun h => by have := of_decide_eq_false h; omega), (fun h => of_decide_eq_true h)⟩
            case measure => simp [intOf]
          · have i1' : (s : Int) + 2 < (G : Int) := by omega
            have hor := or2 n
            clear i1
            go_wp2
            go_round
            case rel => exact ⟨3, _, by omega, rfl, rfl, rfl, (fun h => by have := of_decide_eq_false h; omega), (fun h => of_decide_eq_true h)⟩
            case measure => simp [intOf]
        | true =>
          obtain rfl := D1.out rfl
          clear D0 D1
          have hlo := lo_all (n := n) (by omega)
          have hun' : (un n : Int) ≤ 3 := by omega
          have hGe : ((G : Int) - s - (un n : Nat)) = (n : Int) := by have := HG.out; omega
          by_cases hend : s + 1 = L
          · go_wp2
            refine wp_loop_rounds 1 ?_
            rw [rounds_succ]
            go_wp2
            go_ret
            exact ⟨rfl, K6.out⟩
          · go_wp2
            clear hlo hGe
            go_loopw [14] (fun i wr => ∃ k : Nat, k ≤ n ∧ i = .int .i64 k ∧ Hid (∃ q, wr = w6.drewN q)) (fun i _ => n - (intOf i).toNat)
            case atStart => exact ⟨0, Nat.zero_le _, rfl, 0, rfl⟩
            case round =>
              obtain ⟨j2, hj2, rfl, hw2⟩ := hrel
              obtain ⟨q2, rfl⟩ := hw2.out
              by_cases hlt : j2 < n
              · have c1 : w6.cell? ⟨g, s + un n + j2, none⟩ = some (.int .u8 (X (s + 1 + j2))) := by
                  rw [P6.out.cell (by have := HG.out; omega), sealed, if_neg (by omega), if_neg (by omega), show s + un n + j2 + 1 - un n = s + 1 + j2 by omega]
                have c2 : w6.cell? ⟨w.heap.size + 1, s + 1 + j2, none⟩ = some (.int .u8 (X (s + 1 + j2))) := B6.out _ (by omega)
                have i1 : (s : Int) + (un n : Int) + (j2 : Int) < (G : Int) := by have := HG.out; omega
                have i2 : (j2 : Int) < (L : Int) - (s + 1) := by omega
                have i3 : (j2 : Int) < ((L - (s + 1) : Nat) : Int) := by omega
                have i4 : (0 : Int) ≤ (s : Int) + (un n : Int) + (j2 : Int) := by omega
                have hw1 : IntKind.i64.wrap ((s : Int) + (un n : Int)) = (s : Int) + (un n : Int) := by rw [IntKind.wrap_i64]; omega
                have hw2 : IntKind.i64.wrap ((s : Int) + (un n : Int) + (j2 : Int)) = (s : Int) + (un n : Int) + (j2 : Int) := by rw [IntKind.wrap_i64]; omega
                have ht : ((s : Int) + (un n : Int) + (j2 : Int)).toNat = s + un n + j2 := by omega
                go_wp2
                go_quiet (fail)
                go_wp2
                go_roundw
                case rel => exact ⟨j2 + 1, by omega, by go_num, q2 + nq, by simp⟩
                case measure => simp [intOf]; omega
              · go_wp2
                go_ret
                exact ⟨rfl, K6.out.trans ⟨rfl, rfl, rfl, Nat.le_refl _, fun _ _ => rfl⟩⟩

theorem read_walk (a : Option Addr) (L c : Nat) (X : Nat → Int) (m : Int) (w : World) (hr : BRow w a L X) :
    Calls Try.prog 5 #[.slice a L c, .int .i64 m] w fun e w' => e = .returned (.bool true) ∧ Below w.heap.size w w' := by
  by_cases h1 : L ≤ 1048576
  · by_cases h2 : m < 0
    · clear hr
      go_enter Try.func5, Try.ntmps5
      go_wp2_with fail
      refine (bytes20 _ _ _ _ _ h1).mono ?_
      rintro e w' ⟨rfl, hw⟩
      subst w'
      go_wp2
      go_ret
      exact ⟨rfl, Below.refl _ _⟩
    · by_cases h3 : m < L
      · obtain ⟨s, rfl⟩ : ∃ s : Nat, m = (s : Int) := ⟨m.toNat, by omega⟩
        obtain ⟨b, off, rfl, hc⟩ := hr (by omega)
        exact read_main b off L c s (L - s - 1) X w h1 (by omega) (by omega) hc
      · clear hr
        go_enter Try.func5, Try.ntmps5
        go_wp2_with fail
        refine (bytes20 _ _ _ _ _ h1).mono ?_
        rintro e w' ⟨rfl, hw⟩
        subst w'
        go_wp2
        go_ret
        exact ⟨rfl, Below.refl _ _⟩
  · clear hr
    go_enter Try.func5, Try.ntmps5
    go_wp2_with fail
    refine (bytes20_no _ _ _ _ _ h1).mono ?_
    rintro e w' ⟨rfl, hw⟩
    subst w'
    go_wp2
    go_ret
    exact ⟨rfl, Below.refl _ _⟩

end Go.Proofs.Qxb6604716a
