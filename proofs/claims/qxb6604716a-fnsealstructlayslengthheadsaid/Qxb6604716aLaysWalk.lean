/-
  THE WALK OF 'FnSealStructLaysLengthHead'.
-/
import Derived.Test.Qxb6604716aCallees
namespace Go.Proofs.Qxb6604716a
open Go.RowKit
set_option linter.unusedVariables false

/-- 'want', k bytes appended: its row lies at block B, has room for M, and holds f's first k. -/
structure Want (B M : Nat) (w wr : World) (k : Nat) (f : Nat → Int) : Prop where
  kept : Kept (fun _ => False) w wr
  lt : B < wr.heap.size
  row : wr.rowIs B 5 M (fun j => .int .u8 (if j < k then f j else 0))

theorem want_start (M : Nat) (w : World) (f : Nat → Int) : Want w.heap.size M w (w.alloc (.cells (madeCells #[.int .u8 0] M) 5)) 0 f :=
  ⟨Kept.alloc _ _, by simp, (World.rowIs_made w _ M 5).congr (fun j _ => by simp)⟩

theorem want_step {B M : Nat} {w wr : World} {k : Nat} {f : Nat → Int} (hB : w.heap.size ≤ B) (h : Want B M w wr k f) (o : Obj) (v : Int) (hv : v = f k) : Want B M w ((wr.alloc o).setCell ⟨B, k, none⟩ (.int .u8 v)) (k + 1) f := by
  subst hv
  refine ⟨h.kept.trans ((Kept.alloc wr o).trans (U := fun k => k = B) (Kept.setCell _ _ _ _) (fun _ _ h => h.elim) (fun _ _ h => h)) (fun _ _ h => h) (fun i hi h => by omega), by have := h.lt; simp [World.setCell]; omega, ((h.row.alloc o).set k _).congr (fun j _ => ?_)⟩
  by_cases e : j = k
  · subst e; simp
  · rw [if_neg e]
    by_cases hlt : j < k
    · rw [if_pos hlt, if_pos (by omega)]
    · rw [if_neg hlt, if_neg (by omega)]

theorem make_want (L : Nat) (hL : L ≤ 1048576) (w : World) :
    (Instr.makeSlice 22 (.int .i64 0) (.int .i64 ((L : Int) + 10))).run Try.prog w = .ok (.slice (some ⟨w.heap.size, 0, none⟩) 0 (L + 10)) (w.alloc (.cells (madeCells #[.int .u8 0] (L + 10)) 5)) := by
  obtain ⟨i0, hi, hz0, hz1, hz2⟩ := info_parts Try.info5
  have := run_make (P := Try.prog) w 22 5 i0 (.int .u8 0) Try.underlying22 hi hz0 .i64 .i64 0 ((L : Int) + 10) (by omega) (by omega) (by rw [hz2]; omega) (by omega)
  rw [this, hz1]
  have e : ((L : Int) + 10).toNat = L + 10 := by omega
  rw [e, Nat.mul_one]
  rfl

set_option maxHeartbeats 4000000 in
set_option maxRecDepth 100000 in
theorem lays_no (b off L c s : Nat) (X : Nat → Int) (w : World) (hL : L ≤ 1048576) (hs : s < L)
    (hr : ∀ i, i < L → w.cell? ⟨b, off + i, none⟩ = some (.int .u8 (X i))) :
    Calls Try.prog 4 #[.slice (some ⟨b, off, none⟩) L c, .bool false, .int .i64 s] w fun e w' => e = .returned (.bool true) ∧ Below w.heap.size w w' := by
  have HR : Hid (∀ i, i < L → w.cell? ⟨b, off + i, none⟩ = some (.int .u8 (X i))) := hr
  clear hr
  have h1 : ¬ (1048576 : Int) < (L : Int) := by omega
  have h2 : (s : Int) < (L : Int) := by omega
  have hmk := make_want L hL
  go_enter Try.func4, Try.ntmps4
  go_wp2_with fail
  refine (bytes14 _ _ _ _ _ _ hL).mono ?_
  rintro e w' ⟨rfl, hw⟩
  subst w'
  go_wp2_with fail
  refine (clone7 b off L c X w hL (by omega) HR.out).mono ?_
  rintro e w1 ⟨rfl, hrow1, hsz1, hk1⟩
  have R1 : Hid (w1.rowIs w.heap.size 5 L (fun j => .int .u8 (X j))) := hrow1
  have K1 : Hid (Kept (fun _ => False) w w1) := hk1
  have W0 := want_start (L + 10) w1 X
  rw [hsz1] at W0
  have W0' : Hid _ := W0
  clear hrow1 hk1 HR W0
  go_wp2
  clear hmk
  go_loopw [7, 8] (fun s7 i wr => ∃ k : Nat, k ≤ L ∧ i = .int .i64 k ∧ s7 = .slice (some ⟨w.heap.size + 1, 0, none⟩) k (L + 10) ∧ Hid (Want (w.heap.size + 1) (L + 10) w1 wr k X)) (fun _ i _ => L - (intOf i).toNat)
  case atStart => exact ⟨0, Nat.zero_le _, rfl, rfl, W0'.out⟩
  case round =>
    clear W0'
    obtain ⟨k, hk, rfl, rfl, hW⟩ := hrel
    by_cases hlt : k < L
    · have c0 : wr.cell? ⟨w.heap.size, k, none⟩ = some (.int .u8 (X k)) := hW.out.kept.cell (R1.out.cell hlt) (fun h => h)
      have hc : ∀ o, (wr.alloc o).cell? ⟨w.heap.size + 1, k, none⟩ = some (.int .u8 0) := fun o => by simpa using (hW.out.row.alloc o).cell (i := k) (by omega)
      have hf : ∀ o, (wr.alloc o).frozen? ⟨w.heap.size + 1, k, none⟩ = false := fun o => (hW.out.row.alloc o).frozen k
      have i1 : (k : Int) < (L : Int) := by omega
      have hroom : k + 1 ≤ L + 10 := by omega
      go_wp2
      go_roundw
      case rel => exact ⟨k + 1, by omega, by go_num, rfl, want_step (by omega) hW.out _ _ rfl⟩
      case measure => simp [intOf]; omega
    · obtain rfl : k = L := by omega
      go_wp2_with fail
      refine (newPacker15 _ _ _ _).mono ?_
      rintro e w3 ⟨rfl, hp3, hf3, hsz3, hk3⟩
      have P3 : Hid (w3.cell? ⟨wr.heap.size, 0, none⟩ = some (.slice (some ⟨w.heap.size, 0, none⟩) k k)) := hp3
      have K3 : Hid (Kept (fun _ => False) w w3) := (K1.out.trans hW.out.kept (fun _ _ h => h) (fun _ _ h => h)).trans hk3 (fun _ _ h => h) (fun _ _ h => h)
      have R3 : Hid (w3.rowIs w.heap.size 5 k (fun j => .int .u8 (X j))) := (R1.out.of_block (hW.out.kept.block _ (by omega) (fun h => h))).of_block (hk3.block _ (by have := hW.out.lt; omega) (fun h => h))
      have W3 : Hid (w3.rowIs (w.heap.size + 1) 5 (k + 10) (fun j => .int .u8 (if j < k then X j else 0))) := hW.out.row.of_block (hk3.block _ (by have := hW.out.lt; omega) (fun h => h))
      clear hp3 hf3 hsz3 hk3 K1 R1 hW
      go_wp2_with fail
      refine (newStruct17 _ _).mono ?_
      rintro e w4 ⟨rfl, hst4, hsz4, hk4⟩
      go_wp2_with fail
      refine (zzSeal16_no _ _ _ _ hst4).mono ?_
      rintro e w5 ⟨rfl, hw⟩
      subst w5
      have P4 : Hid (w4.cell? ⟨wr.heap.size, 0, none⟩ = some (.slice (some ⟨w.heap.size, 0, none⟩) k k)) := hk4.cell P3.out (fun h => h)
      have K4 : Hid (Kept (fun _ => False) w w4) := K3.out.trans hk4 (fun _ _ h => h) (fun _ _ h => h)
      have R4 : Hid (w4.rowIs w.heap.size 5 k (fun j => .int .u8 (X j))) := R3.out.of_block (hk4.block _ R3.out.lt (fun h => h))
      have W4 : Hid (w4.rowIs (w.heap.size + 1) 5 (k + 10) (fun j => .int .u8 (if j < k then X j else 0))) := W3.out.of_block (hk4.block _ W3.out.lt (fun h => h))
      clear hst4 hsz4 hk4 P3 K3 R3 W3
      go_wp2_with fail
      refine (packerOut19 _ _ _ _ _ P4.out).mono ?_
      rintro e w5 ⟨rfl, hw⟩
      subst w5
      go_wp2_with fail
      refine (same18 w.heap.size 0 k (w.heap.size + 1) 0 (k + 10) k X w4 (by omega) (fun i hi => by rw [Nat.zero_add]; exact R4.out.cell hi) (fun i hi => by
        have := W4.out.cell (i := i) (by omega)
        rw [Nat.zero_add, this, if_pos hi])).mono ?_
      rintro e w5 ⟨rfl, q, rfl⟩
      go_wp2
      go_ret
      exact ⟨rfl, (K4.out.below (Nat.le_refl _) (fun k h => h.elim)).trans ⟨rfl, rfl, rfl, Nat.le_refl _, fun _ _ => rfl⟩⟩


theorem u64_and127 (x : Nat) (h1 : x < 18446744073709551616) : bits .and .u64 (x : Int) 127 = ((x % 128 : Nat) : Int) := by
  have h := bits_and_u64_nat x 127 h1 (by decide)
  have e : ((127 : Nat) : Int) = 127 := rfl
  rw [e] at h
  rw [h, show (127 : Nat) = 2 ^ 7 - 1 from rfl, Nat.and_two_pow_sub_one_eq_mod]

theorem sealed_lo {X : Nat → Int} {s n i : Nat} (h : i < s) : sealed X s n i = X i := by rw [sealed, if_pos h]
theorem sealed_mid {X : Nat → Int} {s n k : Nat} (h : k < un n) : sealed X s n (s + k) = (ub n k : Int) := by
  rw [sealed, if_neg (by omega), if_pos (by omega), show s + k - s = k by omega]
theorem sealed_hi {X : Nat → Int} {s n j : Nat} : sealed X s n (s + un n + j) = X (s + 1 + j) := by
  rw [sealed, if_neg (by omega), if_neg (by omega), show s + un n + j + 1 - un n = s + 1 + j by omega]

set_option maxHeartbeats 4000000 in
set_option maxRecDepth 100000 in
theorem lays_yes (b off L c s n : Nat) (X : Nat → Int) (w : World) (hL : L ≤ 1048576) (hs : s < L) (hn : n + s + 1 = L)
    (hr : ∀ i, i < L → w.cell? ⟨b, off + i, none⟩ = some (.int .u8 (X i))) :
    Calls Try.prog 4 #[.slice (some ⟨b, off, none⟩) L c, .bool true, .int .i64 s] w fun e w' => e = .returned (.bool true) ∧ Below w.heap.size w w' := by
  have HR : Hid (∀ i, i < L → w.cell? ⟨b, off + i, none⟩ = some (.int .u8 (X i))) := hr
  clear hr
  have h1 : ¬ (1048576 : Int) < (L : Int) := by omega
  have h2 : (s : Int) < (L : Int) := by omega
  have hun1 := un_pos n
  have hun3 := un_le n
  have hmk := make_want L hL
  go_enter Try.func4, Try.ntmps4
  go_wp2_with fail
  refine (bytes14 _ _ _ _ _ _ hL).mono ?_
  rintro e w' ⟨rfl, hw⟩
  subst w'
  go_wp2_with fail
  refine (clone7 b off L c X w hL (by omega) HR.out).mono ?_
  rintro e w1 ⟨rfl, hrow1, hsz1, hk1⟩
  have R1 : Hid (w1.rowIs w.heap.size 5 L (fun j => .int .u8 (X j))) := hrow1
  have K1 : Hid (Kept (fun _ => False) w w1) := hk1
  have W0 := want_start (L + 10) w1 (sealed X s n)
  rw [hsz1] at W0
  have W0' : Hid _ := W0
  clear hrow1 hk1 HR W0
  go_wp2
  clear hmk
  -- the bytes before start
  go_loopw [7, 9] (fun s7 i wr => ∃ k : Nat, k ≤ s ∧ i = .int .i64 k ∧ s7 = .slice (some ⟨w.heap.size + 1, 0, none⟩) k (L + 10) ∧ Hid (Want (w.heap.size + 1) (L + 10) w1 wr k (sealed X s n))) (fun _ i _ => s - (intOf i).toNat)
  case atStart => exact ⟨0, Nat.zero_le _, rfl, rfl, W0'.out⟩
  case round =>
    clear W0'
    obtain ⟨k, hk, rfl, rfl, hW⟩ := hrel
    by_cases hlt : k < s
    · have c0 : wr.cell? ⟨w.heap.size, k, none⟩ = some (.int .u8 (X k)) := hW.out.kept.cell (R1.out.cell (by omega)) (fun h => h)
      have hc : ∀ o, (wr.alloc o).cell? ⟨w.heap.size + 1, k, none⟩ = some (.int .u8 0) := fun o => by simpa using (hW.out.row.alloc o).cell (i := k) (by omega)
      have hf : ∀ o, (wr.alloc o).frozen? ⟨w.heap.size + 1, k, none⟩ = false := fun o => (hW.out.row.alloc o).frozen k
      have i1 : (k : Int) < (L : Int) := by omega
      have hroom : k + 1 ≤ L + 10 := by omega
      go_wp2
      go_roundw
      case rel => exact ⟨k + 1, by omega, by go_num, rfl, want_step (by omega) hW.out _ _ (sealed_lo hlt).symm⟩
      case measure => simp [intOf]; omega
    · obtain rfl : k = s := by omega
      have hLs : (L : Int) - (k : Int) - 1 = (n : Int) := by omega
      go_wp2
      clear hLs
      -- the uvarint
      go_loopg [7, 10] 3 (fun gg s7 s10 wq => ∃ i : Nat, i < un n ∧ gg = 3 - i ∧ s10 = .int .u64 (uq n i) ∧ s7 = .slice (some ⟨w.heap.size + 1, 0, none⟩) (k + i) (L + 10) ∧ Hid (Want (w.heap.size + 1) (L + 10) w1 wq (k + i) (sealed X k n)))
      case atStart => exact ⟨0, by omega, rfl, by rw [uq_zero], rfl, hW.out⟩
      case round =>
        clear hW
        obtain ⟨i, hi, rfl, rfl, rfl, hW⟩ := hrel
        have hmore := uq_more (by omega) hi
        have hle := uq_le n i
        have hc : ∀ o, (wr.alloc o).cell? ⟨w.heap.size + 1, k + i, none⟩ = some (.int .u8 0) := fun o => by simpa using (hW.out.row.alloc o).cell (i := k + i) (by omega)
        have hf : ∀ o, (wr.alloc o).frozen? ⟨w.heap.size + 1, k + i, none⟩ = false := fun o => (hW.out.row.alloc o).frozen (k + i)
        have hroom : k + i + 1 ≤ L + 10 := by omega
        by_cases h : 128 ≤ uq n i
        · have hi1 : i + 1 < un n := by omega
          have hub := ub_more hi1
          have hand : bits .and .u64 (uq n i : Int) 127 = (uq n i : Int) % 128 := by rw [u64_and127 _ (by omega)]; omega
          have hor : bits .or .u8 ((uq n i : Int) % 128) 128 = (ub n i : Int) := by
            rw [Lib.u8_or128_any _ (by omega) (by omega), hub]
            omega
          clear hub hmore
          go_wp2
          go_roundg (3 - (i + 1))
          case measure => omega
          case rel => exact ⟨i + 1, hi1, rfl, by rw [uq_succ]; go_num, rfl, want_step (by omega) hW.out _ _ (sealed_mid hi).symm⟩
        · have hub := ub_last (show ¬ i + 1 < un n by omega)
          have HK : Hid (i + 1 = un n) := (by omega : i + 1 = un n)
          have HB : Hid ((uq n i : Int) = sealed X k n (k + i)) := (by rw [sealed_mid hi, hub] : (uq n i : Int) = sealed X k n (k + i))
          clear hub hmore
          go_wp2
          have hE : Hid (k + un n + 0 = k + i + 1) := (by have := HK.out; omega : k + un n + 0 = k + i + 1)
          -- the struct's bytes
          go_loopw [7, 11] (fun s7 s11 wq => ∃ j : Nat, j ≤ n ∧ s11 = .int .i64 (k + 1 + j : Nat) ∧ s7 = .slice (some ⟨w.heap.size + 1, 0, none⟩) (k + un n + j) (L + 10) ∧ Hid (Want (w.heap.size + 1) (L + 10) w1 wq (k + un n + j) (sealed X k n))) (fun _ s11 _ => L - (intOf s11).toNat)
          case atStart => exact ⟨0, Nat.zero_le _, by go_num, by rw [hE.out], by rw [hE.out]; exact want_step (by omega) hW.out _ _ HB.out⟩
          case round =>
            clear hW hc hf HB hE HK hroom hle
            obtain ⟨j, hj, rfl, rfl, hW⟩ := hrel
            by_cases hlt : j < n
            · have c0 : wr.cell? ⟨w.heap.size, k + 1 + j, none⟩ = some (.int .u8 (X (k + 1 + j))) := hW.out.kept.cell (R1.out.cell (by omega)) (fun h => h)
              have hc : ∀ o, (wr.alloc o).cell? ⟨w.heap.size + 1, k + un n + j, none⟩ = some (.int .u8 0) := fun o => by simpa using (hW.out.row.alloc o).cell (i := k + un n + j) (by omega)
              have hf : ∀ o, (wr.alloc o).frozen? ⟨w.heap.size + 1, k + un n + j, none⟩ = false := fun o => (hW.out.row.alloc o).frozen (k + un n + j)
              have i1 : ((k + 1 + j : Nat) : Int) < (L : Int) := by omega
              have hroom : k + un n + j + 1 ≤ L + 10 := by omega
              go_wp2
              go_roundw
              case rel => exact ⟨j + 1, by omega, by go_num, rfl, want_step (by omega) hW.out _ _ sealed_hi.symm⟩
              case measure => simp [intOf]; omega
            · obtain rfl : j = n := by omega
              obtain ⟨G, hG⟩ : ∃ G, k + un j + j = G := ⟨_, rfl⟩
              rw [hG] at hW ⊢
              have HG : Hid (L + un j - 1 = G) := (by omega : L + un j - 1 = G)
              have hG2 : G ≤ L + 2 := by omega
              have hx : ¬ ((k + 1 + j : Nat) : Int) < (L : Int) := by omega
              clear hG
              go_wp2_with fail
              refine (newPacker15 _ _ _ _).mono ?_
              rintro e w3 ⟨rfl, hp3, hf3, hsz3, hk3⟩
              have P3 : Hid (w3.cell? ⟨wr.heap.size, 0, none⟩ = some (.slice (some ⟨w.heap.size, 0, none⟩) L L)) := hp3
              have F3 : Hid (w3.frozen? ⟨wr.heap.size, 0, none⟩ = false) := hf3
              have K3 : Hid (Kept (fun _ => False) w w3) := (K1.out.trans hW.out.kept (fun _ _ h => h) (fun _ _ h => h)).trans hk3 (fun _ _ h => h) (fun _ _ h => h)
              have R3 : Hid (w3.rowIs w.heap.size 5 L (fun j => .int .u8 (X j))) := (R1.out.of_block (hW.out.kept.block _ (by omega) (fun h => h))).of_block (hk3.block _ (by have := hW.out.lt; omega) (fun h => h))
              have W3 : Hid (w3.rowIs (w.heap.size + 1) 5 (L + 10) (fun i => .int .u8 (if i < G then sealed X k j i else 0))) := hW.out.row.of_block (hk3.block _ (by have := hW.out.lt; omega) (fun h => h))
              have hlt := hW.out.lt
              clear hp3 hf3 hk3 K1 R1 hW
              go_wp2_with fail
              refine (newStruct17 _ _).mono ?_
              rintro e w4 ⟨rfl, hst4, hsz4, hk4⟩
              have P4 : Hid (w4.cell? ⟨wr.heap.size, 0, none⟩ = some (.slice (some ⟨w.heap.size, 0, none⟩) L L)) := hk4.cell P3.out (fun h => h)
              have F4 : Hid (w4.frozen? ⟨wr.heap.size, 0, none⟩ = false) := (World.frozen?_of_block (w := w3) (hk4.block wr.heap.size (by omega) (fun h => h))).trans F3.out
              have K4 : Hid (Kept (fun _ => False) w w4) := K3.out.trans hk4 (fun _ _ h => h) (fun _ _ h => h)
              have R4 : Hid (w4.rowIs w.heap.size 5 L (fun j => .int .u8 (X j))) := R3.out.of_block (hk4.block _ R3.out.lt (fun h => h))
              have W4 : Hid (w4.rowIs (w.heap.size + 1) 5 (L + 10) (fun i => .int .u8 (if i < G then sealed X k j i else 0))) := W3.out.of_block (hk4.block _ W3.out.lt (fun h => h))
              clear hk4 P3 F3 K3 R3 W3 hsz4
              go_wp2_with fail
              rw [hsz3] at hst4
              refine (zzSeal16 wr.heap.size (wr.heap.size + 1) w.heap.size L k j X w4 hL hs hn P4.out F4.out hst4 (by omega) R4.out).mono ?_
              rintro e w5 ⟨rfl, g, cap, hp5, hP5, hk5⟩
              rw [HG.out] at hp5 hP5
              have P5 : Hid (Pre w5 g G (sealed X k j)) := hP5
              have W5 : Hid (w5.rowIs (w.heap.size + 1) 5 (L + 10) (fun i => .int .u8 (if i < G then sealed X k j i else 0))) := W4.out.of_block (hk5.block _ W4.out.lt (by omega))
              have K5 : Hid (Below w.heap.size w w5) := (K4.out.trans hk5 (U := fun k => k = wr.heap.size ∨ k = w.heap.size) (fun _ _ h => h.elim) (fun _ _ h => h)).below (Nat.le_refl _) (fun k h => by omega)
              clear hP5 hk5 hst4 P4 F4 K4 R4 W4
              go_wp2_with fail
              refine (packerOut19 _ _ _ _ _ hp5).mono ?_
              rintro e w6 ⟨rfl, hw⟩
              subst w6
              go_wp2_with fail
              refine (same18 g 0 cap (w.heap.size + 1) 0 (L + 10) G (sealed X k j) w5 (by omega) (fun i hi => by rw [Nat.zero_add]; exact P5.out.cell hi) (fun i hi => by
                have := W5.out.cell (i := i) (by omega)
                rw [Nat.zero_add, this, if_pos hi])).mono ?_
              rintro e w6 ⟨rfl, q, rfl⟩
              go_wp2
              go_ret
              exact ⟨rfl, K5.out.trans ⟨rfl, rfl, rfl, Nat.le_refl _, fun _ _ => rfl⟩⟩

theorem lays_walk (a : Option Addr) (L c : Nat) (X : Nat → Int) (hd : Bool) (m : Int) (w : World) (hr : BRow w a L X) :
    Calls Try.prog 4 #[.slice a L c, .bool hd, .int .i64 m] w fun e w' => e = .returned (.bool true) ∧ Below w.heap.size w w' := by
  by_cases h1 : L ≤ 1048576
  · by_cases h2 : m < 0
    · clear hr
      go_enter Try.func4, Try.ntmps4
      go_wp2_with fail
      refine (bytes14 _ _ _ _ _ _ h1).mono ?_
      rintro e w' ⟨rfl, hw⟩
      subst w'
      go_wp2
      go_ret
      exact ⟨rfl, Below.refl _ _⟩
    · by_cases h3 : m < L
      · obtain ⟨s, rfl⟩ : ∃ s : Nat, m = (s : Int) := ⟨m.toNat, by omega⟩
        obtain ⟨b, off, rfl, hc⟩ := hr (by omega)
        cases hd with
        | false => exact lays_no b off L c s X w h1 (by omega) hc
        | true => exact lays_yes b off L c s (L - s - 1) X w h1 (by omega) (by omega) hc
      · clear hr
        go_enter Try.func4, Try.ntmps4
        go_wp2_with fail
        refine (bytes14 _ _ _ _ _ _ h1).mono ?_
        rintro e w' ⟨rfl, hw⟩
        subst w'
        go_wp2
        go_ret
        exact ⟨rfl, Below.refl _ _⟩
  · clear hr
    go_enter Try.func4, Try.ntmps4
    go_wp2_with fail
    refine (bytes14_no _ _ _ _ _ _ h1).mono ?_
    rintro e w' ⟨rfl, hw⟩
    subst w'
    go_wp2
    go_ret
    exact ⟨rfl, Below.refl _ _⟩

end Go.Proofs.Qxb6604716a
