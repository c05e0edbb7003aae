/-
  THE CALLEES' CONTRACTS: zzBytes, cloneBytes, putDigits, ZZputDigits, lowDigits.
-/
import Derived.Test.Qxb6604533aPlain
import Derived.Test.Qxb6604533aChecked
import Derived.WalkKit
import Derived.Deep.LoopGhost
import Derived.Deep.OwnRows
import Derived.Deep.QuietTactic
import Derived.BigQuiet
import Derived.WalkSpells
namespace Go.Proofs.Qxb6604533a
open Go.RowKit

theorem ret_int {k : IntKind} {a b : Int} (h : a = b) : Ending.returned (.int k a) = .returned (.int k b) := by rw [h]

theorem bytes4 (a : Option Addr) (n c : Nat) (m : Int) (w : World) (hn : n ≤ 1048576) :
    Calls Try.prog 4 #[.slice a n c, .int .i64 m] w fun e w' => e = .returned (.bool true) ∧ w' = w := by
  have h1 : ¬ (1048576 : Int) < (n : Int) := by omega
  go_enter Try.func4, Try.ntmps4
  go_wp2
  go_ret
  exact ⟨rfl, rfl⟩
theorem bytes4_no (a : Option Addr) (n c : Nat) (m : Int) (w : World) (hn : ¬ n ≤ 1048576) :
    Calls Try.prog 4 #[.slice a n c, .int .i64 m] w fun e w' => e = .returned (.bool false) ∧ w' = w := by
  have h1 : (1048576 : Int) < (n : Int) := by omega
  go_enter Try.func4, Try.ntmps4
  go_wp2
  go_ret
  exact ⟨rfl, rfl⟩

/-- A ROW OF BYTES IN MEMORY that is read. -/
def BRow (w : World) (a : Option Addr) (n : Nat) (V : Nat → Int) : Prop :=
  0 < n → ∃ b off, a = some ⟨b, off, none⟩ ∧ ∀ i, i < n → w.cell? ⟨b, off + i, none⟩ = some (.int .u8 (V i))

/-- A ROW OF BYTES OF THE CALL's OWN: a block from B on. -/
def ORow (B : Nat) (w : World) (a : Option Addr) (n : Nat) (V : Nat → Int) : Prop :=
  0 < n → ∃ b, B ≤ b ∧ a = some ⟨b, 0, none⟩ ∧ w.rowIs b 5 n (fun i => .int .u8 (V i))

theorem Try.info5 : (Try.prog.info? 5).map (fun i => (i.zero, i.size, i.bytes)) = some (some (.int .u8 0), 1, 1) := by kernel_rfl

/-- WHAT HOLDS AT THE CLONING LOOP's HEAD, k elements copied. -/
structure Cloned (w wr : World) (n k : Nat) (V : Nat → Int) : Prop where
  below : Below w.heap.size w wr
  row : wr.rowIs w.heap.size 5 n (fun j => if j < k then .int .u8 (V j) else .int .u8 0)

theorem cloned_start (w : World) (n : Nat) (V : Nat → Int) : Cloned w (w.alloc (.cells (madeCells #[.int .u8 0] n) 5)) n 0 V :=
  ⟨(Below.refl _ _).alloc (Nat.le_refl _) _, (World.rowIs_made w _ n 5).congr (fun j _ => by simp)⟩

theorem cloned_step {w wr : World} {n k : Nat} {V : Nat → Int} (h : Cloned w wr n k V) : Cloned w (wr.setCell ⟨w.heap.size, k, none⟩ (.int .u8 (V k))) n (k + 1) V := by
  refine ⟨h.below.setCell (Nat.le_refl _) _, (h.row.set k _).congr (fun j _ => ?_)⟩
  by_cases e : j = k
  · subst e; simp
  · rw [if_neg e]
    by_cases hlt : j < k
    · rw [if_pos hlt, if_pos (by omega)]
    · rw [if_neg hlt, if_neg (by omega)]

theorem cloned_end {w wr : World} {n : Nat} {V : Nat → Int} (h : Cloned w wr n n V) : ORow w.heap.size wr (some ⟨w.heap.size, 0, none⟩) n V :=
  fun _ => ⟨_, Nat.le_refl _, rfl, h.row.congr (fun i hi => by rw [if_pos hi])⟩

/-- cloneBytes. -/
theorem clone5 (a : Option Addr) (n c : Nat) (V : Nat → Int) (w : World) (hn : n ≤ 1048576) (hr : BRow w a n V) :
    Calls Try.prog 5 #[.slice a n c] w fun e w' => ∃ a', e = .returned (.slice a' n n) ∧ ORow w.heap.size w' a' n V ∧ Below w.heap.size w w' := by
  have q22 : ∀ (w : World) (a : Option Addr) (n c n' c' : Nat), (binOp .eql 22 (.slice a n c) (.slice none n' c')).run Try.prog w = .ok (.bool a.isNone) w := fun w a n c n' c' => Lib.run_eql_slice_nil w _ _ a n c n' c' Try.underlying22
  cases a with
  | none =>
    obtain rfl : n = 0 := by
      by_cases h : 0 < n
      · obtain ⟨b, off, h, _⟩ := hr h
        cases h
      · omega
    clear hr
    go_enter Try.func5, Try.ntmps5
    go_wp2
    go_ret
    exact ⟨none, rfl, fun h => by omega, Below.refl _ _⟩
  | some x =>
    have HR : Hid (BRow w (some x) n V) := hr
    clear hr
    have hmk := run_make_row' (P := Try.prog) 22 5 (.int .u8 0) 1 Try.underlying22 Try.info5 rfl .i64 .i64 n (by omega) (by omega)
    go_enter Try.func5, Try.ntmps5
    go_wp2
    clear hmk q22
    go_loopw [4] (fun i wr => ∃ k : Nat, k ≤ n ∧ i = .int .i64 k ∧ Cloned w wr n k V) (fun i _ => n - (intOf i).toNat)
    case atStart => exact ⟨0, Nat.zero_le _, rfl, cloned_start w n V⟩
    case round =>
      obtain ⟨k, hk, rfl, hC⟩ := hrel
      by_cases hlt : k < n
      · obtain ⟨b, off, e, hc⟩ := HR.out (by omega)
        cases e
        have h0 : wr.cell? ⟨b, off + k, none⟩ = some (.int .u8 (V k)) := cell_later hC.below (hc k hlt)
        have h1 : wr.cell? ⟨w.heap.size, k, none⟩ = some (.int .u8 0) := by simpa using hC.row.cell hlt
        have h2 := hC.row.frozen k
        have i2 : (k : Int) < (n : Int) := by omega
        clear hc
        go_wp2
        go_roundw
        case rel => exact ⟨k + 1, by omega, by go_num, cloned_step hC⟩
        case measure => simp [intOf]; omega
      · obtain rfl : k = n := by omega
        go_wp2
        go_ret
        exact ⟨_, rfl, cloned_end hC, hC.below⟩

/-- The digit of n that stands at place i of L. -/
def dig (N L i : Nat) : Int := 48 + (q10 N (L - 1 - i) : Int) % 10

/-- WHAT HOLDS AT putDigits' LOOP's HEAD, the last k digits written. -/
structure Put (B b : Nat) (w wr : World) (N L k : Nat) (V : Nat → Int) : Prop where
  below : Below B w wr
  row : wr.rowIs b 5 L (fun j => .int .u8 (if L - k ≤ j then dig N L j else V j))

theorem put_step {B b : Nat} {w wr : World} {N L k : Nat} {V : Nat → Int} (hB : B ≤ b) (hk : k < L) (h : Put B b w wr N L k V) : Put B b w (wr.setCell ⟨b, L - 1 - k, none⟩ (.int .u8 (48 + (q10 N k : Int) % 10))) N L (k + 1) V := by
  refine ⟨h.below.setCell hB _, (h.row.set (L - 1 - k) _).congr (fun j hj => ?_)⟩
  by_cases e : j = L - 1 - k
  · subst e
    rw [if_pos rfl, if_pos (by omega), dig, show L - 1 - (L - 1 - k) = k by omega]
  · rw [if_neg e]
    by_cases hlt : L - k ≤ j
    · rw [if_pos hlt, if_pos (by omega)]
    · rw [if_neg hlt, if_neg (by omega)]

set_option maxHeartbeats 1000000 in
/-- putDigits. -/
theorem put8 (B : Nat) (a : Option Addr) (L c N : Nat) (V : Nat → Int) (w : World) (hL : L ≤ 1048576) (hN : N ≤ 9223372036854775807) (hr : ORow B w a L V) :
    Calls Try.prog 8 #[.slice a L c, .int .i64 N] w fun e w' => e = .returned (.tuple #[]) ∧ ORow B w' a L (dig N L) ∧ Below B w w' := by
  by_cases h0 : 0 < L
  · obtain ⟨b, hB, rfl, hrow⟩ := hr h0
    have P0 : Put B b w w N L 0 V := ⟨Below.refl _ _, hrow.congr (fun j hj => by rw [if_neg (by omega)])⟩
    clear hr hrow
    go_enter Try.func8, Try.ntmps8
    go_wp2
    go_loopg [1, 4] L (fun g s1 s4 wr => ∃ k : Nat, k ≤ L ∧ g = L - k ∧ s1 = .int .i64 (q10 N k) ∧ s4 = .int .i64 ((L : Int) - 1 - k) ∧ Put B b w wr N L k V)
    case atStart => exact ⟨0, Nat.zero_le _, rfl, by rw [q10_zero], by go_num, P0⟩
    case round =>
      obtain ⟨k, hk, rfl, rfl, rfl, hP⟩ := hrel
      have hq := q10_le N k
      by_cases hlt : k < L
      · have c1 := hP.row.cell (i := L - 1 - k) (by omega)
        have c2 := hP.row.frozen (L - 1 - k)
        have i0 : (0 : Int) ≤ (L : Int) - 1 - k := by omega
        have i1 : (L : Int) - 1 - k < (L : Int) := by omega
        have e1 : ((L : Int) - 1 - k).toNat = L - 1 - k := by omega
        go_wp2
        go_roundg (L - (k + 1))
        case measure => omega
        case rel => exact ⟨k + 1, by omega, rfl, by rw [q10_succ]; go_num, by go_num, put_step hB hlt hP⟩
      · obtain rfl : k = L := by omega
        go_wp2
        go_end0
        exact ⟨rfl, fun _ => ⟨b, hB, rfl, hP.row.congr (fun j _ => by rw [if_pos (by omega)])⟩, hP.below⟩
  · obtain rfl : L = 0 := by omega
    clear hr h0
    go_enter Try.func8, Try.ntmps8
    go_wp2
    refine wp_loop_rounds 1 ?_
    rw [rounds_succ]
    go_wp2
    go_end0
    exact ⟨rfl, fun h => by omega, Below.refl _ _⟩

/-- ZZputDigits. -/
theorem put6 (B : Nat) (a : Option Addr) (L c N : Nat) (V : Nat → Int) (w : World) (hL : L ≤ 1048576) (hN : N ≤ 9223372036854775807) (hr : ORow B w a L V) :
    Calls Try.prog 6 #[.slice a L c, .int .i64 N] w fun e w' => e = .returned (.tuple #[]) ∧ ORow B w' a L (dig N L) ∧ Below B w w' := by
  have HR : Hid (ORow B w a L V) := hr
  clear hr
  go_enter Try.func6, Try.ntmps6
  go_wp2_with fail
  refine (put8 B _ _ _ _ V _ hL hN HR.out).mono ?_
  rintro e w' ⟨rfl, h1, h2⟩
  have H1 : Hid (ORow B w' a L (dig N L)) := h1
  clear h1
  go_wp2
  go_end0
  exact ⟨rfl, H1.out, h2⟩

set_option maxHeartbeats 1000000 in
/-- lowDigits. -/
theorem low7 (N L : Nat) (w : World) (hL : L ≤ 1048576) (hN : N ≤ 9223372036854775807) :
    Calls Try.prog 7 #[.int .i64 N, .int .i64 L] w fun e w' => e = .returned (.int .i64 (low N L)) ∧ w' = w := by
  go_enter Try.func7, Try.ntmps7
  go_wp2
  go_loop [5, 6] (fun s5 s6 => ∃ k : Nat, k ≤ L ∧ s6 = .int .i64 k ∧ s5 = .int .i64 (q10 N k)) (fun _ s6 => L - (intOf s6).toNat)
  case atStart => exact ⟨0, Nat.zero_le _, rfl, by rw [q10_zero]⟩
  case round =>
    obtain ⟨k, hk, rfl, rfl⟩ := hrel
    have hq := q10_le N k
    by_cases hz : q10 N k = 0
    · have hlow : Hid (low N L = N) := low_small hz hk
      have hz' : ((q10 N k : Int) == 0) = true := by rw [hz]; rfl
      have hz2 : ((q10 N k : Int) != 0) = false := by rw [hz]; rfl
      have HZ : Hid (q10 N k = 0) := hz
      clear hz
      by_cases hlt : k < L
      · go_wp2
        go_ret
        exact ⟨by rw [hlow.out]; rfl, rfl⟩
      · go_wp2
        go_ret
        exact ⟨by rw [hlow.out]; rfl, rfl⟩
    · have hz' : ((q10 N k : Int) == 0) = false := by simpa using hz
      have hz2 : ((q10 N k : Int) != 0) = true := by simpa using hz
      by_cases hlt : k < L
      · go_wp2
        go_round
        case rel => exact ⟨k + 1, by omega, by go_num, by rw [q10_succ]; go_num⟩
        case measure => simp [intOf]; omega
      · obtain rfl : k = L := by omega
        have hpw : pw k ≤ N := pw_le hz
        have hqp := q_pw_le N k
        have hqp' : (q10 N k : Int) * (pw k : Int) ≤ (N : Int) := by exact_mod_cast hqp
        have hqp0 : 0 ≤ (q10 N k : Int) * (pw k : Int) := Int.mul_nonneg (by omega) (by omega)
        have hlow : Hid (low N k = N - q10 N k * pw k) := low_great N k
        have hcast : ((q10 N k * pw k : Nat) : Int) = (q10 N k : Int) * (pw k : Int) := Int.natCast_mul _ _
        have HC : Hid (((q10 N k * pw k : Nat) : Int) = (q10 N k : Int) * (pw k : Int)) := hcast
        clear hcast
        go_wp2
        go_loop [7, 8] (fun s7 s8 => ∃ j : Nat, j ≤ k ∧ s8 = .int .i64 j ∧ s7 = .int .i64 (pw j)) (fun _ s8 => k - (intOf s8).toNat)
        case atStart => exact ⟨0, Nat.zero_le _, rfl, by rw [pw_zero]; rfl⟩
        case round =>
          obtain ⟨j, hj, rfl, rfl⟩ := hrel
          have hpj := pw_mono hj
          by_cases hjk : j < k
          · have hp1 := pw_mono (show j + 1 ≤ k by omega)
            rw [pw_succ] at hp1
            go_wp2
            go_round
            case rel => exact ⟨j + 1, by omega, by go_num, by rw [pw_succ]; go_num⟩
            case measure => simp [intOf]; omega
          · obtain rfl : j = k := by omega
            go_wp2
            go_ret
            exact ⟨ret_int (by rw [hlow.out, Int.ofNat_sub hqp, HC.out]), rfl⟩

end Go.Proofs.Qxb6604533a
