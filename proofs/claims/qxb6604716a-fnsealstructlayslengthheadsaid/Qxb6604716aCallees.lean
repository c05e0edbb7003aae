/-
  THE OTHER CALLEES' CONTRACTS.
-/
import Derived.Test.Qxb6604716aSeal
namespace Go.Proofs.Qxb6604716a
open Go.RowKit
set_option linter.unusedVariables false

/-- A ROW OF BYTES IN MEMORY that is read. -/
def BRow (w : World) (a : Option Addr) (n : Nat) (V : Nat → Int) : Prop :=
  0 < n → ∃ b off, a = some ⟨b, off, none⟩ ∧ ∀ i, i < n → w.cell? ⟨b, off + i, none⟩ = some (.int .u8 (V i))

/-- WHAT HOLDS AT THE CLONING LOOP's HEAD, k elements copied. -/
structure Cloned (w wr : World) (n k : Nat) (V : Nat → Int) : Prop where
  kept : Kept (fun _ => False) w wr
  size : wr.heap.size = w.heap.size + 1
  row : wr.rowIs w.heap.size 5 n (fun j => .int .u8 (if j < k then V j else 0))

theorem cloned_start (w : World) (n : Nat) (V : Nat → Int) : Cloned w (w.alloc (.cells (madeCells #[.int .u8 0] n) 5)) n 0 V :=
  ⟨Kept.alloc _ _, by simp, (World.rowIs_made w _ n 5).congr (fun j _ => by simp)⟩

theorem cloned_step {w wr : World} {n k : Nat} {V : Nat → Int} (h : Cloned w wr n k V) : Cloned w (wr.setCell ⟨w.heap.size, k, none⟩ (.int .u8 (V k))) n (k + 1) V := by
  refine ⟨h.kept.trans (Kept.setCell _ _ _ _) (fun _ _ h => h) (fun i hi h => by omega), by simp [World.setCell, h.size], (h.row.set k _).congr (fun j _ => ?_)⟩
  by_cases e : j = k
  · subst e; simp
  · rw [if_neg e]
    by_cases hlt : j < k
    · rw [if_pos hlt, if_pos (by omega)]
    · rw [if_neg hlt, if_neg (by omega)]

/-- zzCloneBytes, of a slice that is not empty. -/
theorem clone7 (b off n c : Nat) (V : Nat → Int) (w : World) (hn : n ≤ 1048576) (hpos : 0 < n) (hr : ∀ i, i < n → w.cell? ⟨b, off + i, none⟩ = some (.int .u8 (V i))) :
    Calls Try.prog 7 #[.slice (some ⟨b, off, none⟩) n c] w fun e w' => e = .returned (.slice (some ⟨w.heap.size, 0, none⟩) n n) ∧ w'.rowIs w.heap.size 5 n (fun j => .int .u8 (V j)) ∧ w'.heap.size = w.heap.size + 1 ∧ Kept (fun _ => False) w w' := by
  have q22 : ∀ (w : World) (a : Option Addr) (n c n' c' : Nat), (binOp .eql 22 (.slice a n c) (.slice none n' c')).run Try.prog w = .ok (.bool a.isNone) w := fun w a n c n' c' => Lib.run_eql_slice_nil w _ _ a n c n' c' Try.underlying22
  have HR : Hid (∀ i, i < n → w.cell? ⟨b, off + i, none⟩ = some (.int .u8 (V i))) := hr
  clear hr
  have hmk := run_make_row' (P := Try.prog) 22 5 (.int .u8 0) 1 Try.underlying22 Try.info5 rfl .i64 .i64 n (by omega) (by omega)
  go_enter Try.func7, Try.ntmps7
  go_wp2
  clear hmk q22
  go_loopw [4] (fun i wr => ∃ k : Nat, k ≤ n ∧ i = .int .i64 k ∧ Cloned w wr n k V) (fun i _ => n - (intOf i).toNat)
  case atStart => exact ⟨0, Nat.zero_le _, rfl, cloned_start w n V⟩
  case round =>
    obtain ⟨k, hk, rfl, hC⟩ := hrel
    by_cases hlt : k < n
    · have h0 : wr.cell? ⟨b, off + k, none⟩ = some (.int .u8 (V k)) := hC.kept.cell (HR.out k hlt) (fun h => h)
      have h1 : wr.cell? ⟨w.heap.size, k, none⟩ = some (.int .u8 0) := by simpa using hC.row.cell hlt
      have h2 := hC.row.frozen k
      have i2 : (k : Int) < (n : Int) := by omega
      go_wp2
      go_roundw
      case rel => exact ⟨k + 1, by omega, by go_num, cloned_step hC⟩
      case measure => simp [intOf]; omega
    · obtain rfl : k = n := by omega
      go_wp2
      go_ret
      exact ⟨rfl, hC.row.congr (fun i hi => by rw [if_pos hi]), hC.size, hC.kept⟩

/-- zzSameBytes of two rows that are the same. -/
theorem same18 (b1 o1 c1 b2 o2 c2 n : Nat) (V : Nat → Int) (w : World) (hn : n ≤ 2097152)
    (h1 : ∀ i, i < n → w.cell? ⟨b1, o1 + i, none⟩ = some (.int .u8 (V i))) (h2 : ∀ i, i < n → w.cell? ⟨b2, o2 + i, none⟩ = some (.int .u8 (V i))) :
    Calls Try.prog 18 #[.slice (some ⟨b1, o1, none⟩) n c1, .slice (some ⟨b2, o2, none⟩) n c2] w fun e w' => e = .returned (.bool true) ∧ ∃ q, w' = w.drewN q := by
  have H1 : Hid _ := h1
  have H2 : Hid _ := h2
  clear h1 h2
  go_enter Try.func18, Try.ntmps18
  go_wp2
  go_loopw [5] (fun i wr => ∃ k : Nat, k ≤ n ∧ i = .int .i64 k ∧ Hid (∃ q, wr = w.drewN q)) (fun i _ => n - (intOf i).toNat)
  case atStart => exact ⟨0, Nat.zero_le _, rfl, 0, rfl⟩
  case round =>
    obtain ⟨k, hk, rfl, hw⟩ := hrel
    obtain ⟨q, rfl⟩ := hw.out
    by_cases hlt : k < n
    · have c1 : w.cell? ⟨b1, o1 + k, none⟩ = some (.int .u8 (V k)) := H1.out k hlt
      have c2 : w.cell? ⟨b2, o2 + k, none⟩ = some (.int .u8 (V k)) := H2.out k hlt
      have i2 : (k : Int) < (n : Int) := by omega
      go_wp2
      go_quiet (fail)
      go_wp2
      go_roundw
      case rel => exact ⟨k + 1, by omega, by go_num, q + nq, by simp⟩
      case measure => simp [intOf]; omega
    · go_wp2
      go_ret
      exact ⟨rfl, q, rfl⟩

theorem bytes6 (a : Option Addr) (n c : Nat) (x y : Bool) (w : World) (hn : n ≤ 1048576) :
    Calls Try.prog 6 #[.slice a n c, .bool x, .bool y] w fun e w' => e = .returned (.bool true) ∧ w' = w := by
  have h1 : ¬ (1048576 : Int) < (n : Int) := by omega
  go_enter Try.func6, Try.ntmps6
  go_wp2
  go_ret
  exact ⟨rfl, rfl⟩
theorem bytes6_no (a : Option Addr) (n c : Nat) (x y : Bool) (w : World) (hn : ¬ n ≤ 1048576) :
    Calls Try.prog 6 #[.slice a n c, .bool x, .bool y] w fun e w' => e = .returned (.bool false) ∧ w' = w := by
  have h1 : (1048576 : Int) < (n : Int) := by omega
  go_enter Try.func6, Try.ntmps6
  go_wp2
  go_ret
  exact ⟨rfl, rfl⟩
theorem bytes14 (a : Option Addr) (n c : Nat) (x : Bool) (y : Int) (w : World) (hn : n ≤ 1048576) :
    Calls Try.prog 14 #[.slice a n c, .bool x, .int .i64 y] w fun e w' => e = .returned (.bool true) ∧ w' = w := by
  have h1 : ¬ (1048576 : Int) < (n : Int) := by omega
  go_enter Try.func14, Try.ntmps14
  go_wp2
  go_ret
  exact ⟨rfl, rfl⟩
theorem bytes14_no (a : Option Addr) (n c : Nat) (x : Bool) (y : Int) (w : World) (hn : ¬ n ≤ 1048576) :
    Calls Try.prog 14 #[.slice a n c, .bool x, .int .i64 y] w fun e w' => e = .returned (.bool false) ∧ w' = w := by
  have h1 : (1048576 : Int) < (n : Int) := by omega
  go_enter Try.func14, Try.ntmps14
  go_wp2
  go_ret
  exact ⟨rfl, rfl⟩
theorem bytes20 (a : Option Addr) (n c : Nat) (y : Int) (w : World) (hn : n ≤ 1048576) :
    Calls Try.prog 20 #[.slice a n c, .int .i64 y] w fun e w' => e = .returned (.bool true) ∧ w' = w := by
  have h1 : ¬ (1048576 : Int) < (n : Int) := by omega
  go_enter Try.func20, Try.ntmps20
  go_wp2
  go_ret
  exact ⟨rfl, rfl⟩
theorem bytes20_no (a : Option Addr) (n c : Nat) (y : Int) (w : World) (hn : ¬ n ≤ 1048576) :
    Calls Try.prog 20 #[.slice a n c, .int .i64 y] w fun e w' => e = .returned (.bool false) ∧ w' = w := by
  have h1 : (1048576 : Int) < (n : Int) := by omega
  go_enter Try.func20, Try.ntmps20
  go_wp2
  go_ret
  exact ⟨rfl, rfl⟩

theorem newStruct17 (b : Bool) (w : World) :
    Calls Try.prog 17 #[.bool b] w fun e w' => e = .returned (.pointer (some ⟨w.heap.size, 0, none⟩)) ∧ w'.cell? ⟨w.heap.size, 11, none⟩ = some (.bool b) ∧ w'.heap.size = w.heap.size + 1 ∧ Kept (fun _ => False) w w' := by
  go_enter Try.func17, Try.ntmps17
  go_wp2
  go_ret
  exact ⟨rfl, by simp [World.cell?_alloc_at], by simp, Kept.alloc _ _⟩
theorem newPacker15 (a : Option Addr) (n c : Nat) (w : World) :
    Calls Try.prog 15 #[.slice a n c] w fun e w' => e = .returned (.pointer (some ⟨w.heap.size, 0, none⟩)) ∧ w'.cell? ⟨w.heap.size, 0, none⟩ = some (.slice a n c) ∧ w'.frozen? ⟨w.heap.size, 0, none⟩ = false ∧ w'.heap.size = w.heap.size + 1 ∧ Kept (fun _ => False) w w' := by
  go_enter Try.func15, Try.ntmps15
  go_wp2
  go_ret
  exact ⟨rfl, by simp [World.cell?_alloc_at], by unfold World.frozen?; rw [heap_alloc_new]; rfl, by simp, Kept.alloc _ _⟩
theorem packerOut19 (PB : Nat) (a : Option Addr) (n c : Nat) (w : World) (h : w.cell? ⟨PB, 0, none⟩ = some (.slice a n c)) :
    Calls Try.prog 19 #[.pointer (some ⟨PB, 0, none⟩)] w fun e w' => e = .returned (.slice a n c) ∧ w' = w := by
  go_enter Try.func19, Try.ntmps19
  go_wp2
  go_ret
  exact ⟨rfl, rfl⟩

/-- seal, whatever the head's length. -/
theorem seal_any (PB OB HB L s n : Nat) (X : Nat → Int) (w : World) (hL : L ≤ 1048576) (hs : s < L) (hn : n + s + 1 = L)
    (hp : w.cell? ⟨PB, 0, none⟩ = some (.slice (some ⟨OB, 0, none⟩) L L)) (hpf : w.frozen? ⟨PB, 0, none⟩ = false) (hh : w.cell? ⟨HB, 0, none⟩ = some (.int .u64 n)) (hPO : PB ≠ OB)
    (hrow : w.rowIs OB 5 L (fun i => .int .u8 (X i))) :
    Calls Try.prog 26 #[.pointer (some ⟨PB, 0, none⟩), .int .i64 s, .int .i64 1, .slice (some ⟨HB, 0, none⟩) 1 1] w fun e w' => e = .returned (.tuple #[]) ∧
      ∃ g cap, w'.cell? ⟨PB, 0, none⟩ = some (.slice (some ⟨g, 0, none⟩) (L + un n - 1) cap) ∧ Pre w' g (L + un n - 1) (sealed X s n) ∧ Kept (fun k => k = PB ∨ k = OB) w w' := by
  by_cases h : n < 128
  · refine (seal_small PB OB HB L s n X w hL hs hn h hp hh hPO hrow).mono ?_
    rintro e w' ⟨he, h1, h2, h3⟩
    rw [un_one.2 h, Nat.add_sub_cancel]
    exact ⟨he, OB, L, h1, h2, h3.mono (fun _ _ h => .inr h)⟩
  · refine (seal_big PB OB HB L s n X w hL hs hn (by omega) hp hpf hh hPO hrow).mono ?_
    rintro e w' ⟨he, g, cap, h1, h2, h3, h4⟩
    exact ⟨he, g, cap, h1, h2, h4.mono (fun _ _ h => .inl h)⟩

set_option maxHeartbeats 1000000 in
/-- sealStruct of a headed struct. -/
theorem sealStruct23 (PB SB OB L s n : Nat) (X : Nat → Int) (w : World) (hL : L ≤ 1048576) (hs : s < L) (hn : n + s + 1 = L)
    (hp : w.cell? ⟨PB, 0, none⟩ = some (.slice (some ⟨OB, 0, none⟩) L L)) (hpf : w.frozen? ⟨PB, 0, none⟩ = false) (hst : w.cell? ⟨SB, 11, none⟩ = some (.bool true)) (hPO : PB ≠ OB)
    (hrow : w.rowIs OB 5 L (fun i => .int .u8 (X i))) :
    Calls Try.prog 23 #[.pointer (some ⟨PB, 0, none⟩), .pointer (some ⟨SB, 0, none⟩), .int .i64 s] w fun e w' => e = .returned (.tuple #[]) ∧
      ∃ g cap, w'.cell? ⟨PB, 0, none⟩ = some (.slice (some ⟨g, 0, none⟩) (L + un n - 1) cap) ∧ Pre w' g (L + un n - 1) (sealed X s n) ∧ Kept (fun k => k = PB ∨ k = OB) w w' := by
  have HROW : Hid (w.rowIs OB 5 L (fun i => .int .u8 (X i))) := hrow
  have hPB : PB < w.heap.size := World.block_lt_of_cell? _ _ hp
  clear hrow
  go_enter Try.func23, Try.ntmps23
  go_wp2_with fail
  have hh : (w.alloc (Obj.cells #[Value.int IntKind.u64 ((L : Int) - s - 1)] 27)).cell? ⟨w.heap.size, 0, none⟩ = some (.int .u64 n) := by
    rw [show (L : Int) - s - 1 = (n : Int) by omega]
    simp
  have hfz : (w.alloc (Obj.cells #[Value.int IntKind.u64 ((L : Int) - s - 1)] 27)).frozen? ⟨PB, 0, none⟩ = false := by
    rw [World.frozen?_of_block (w := w) (Below.heap_alloc _ _ _ hPB)]; exact hpf
  refine (seal_any PB OB w.heap.size L s n X _ hL hs hn ((Kept.alloc w _).cell hp (fun h => h)) hfz hh hPO (HROW.out.alloc _)).mono ?_
  rintro e w' ⟨rfl, g, cap, h1, h2, h3⟩
  have H1 : Hid _ := h1
  have H2 : Hid _ := h2
  have H3 : Hid _ := h3
  clear h1 h2 h3 hh hfz
  go_wp2
  go_end0
  exact ⟨rfl, g, cap, H1.out, H2.out, (Kept.alloc w _).trans H3.out (fun _ _ h => h.elim) (fun _ _ h => h)⟩

/-- sealStruct of a struct that is not headed: nothing happens. -/
theorem sealStruct23_no (p : Value) (SB s : Nat) (w : World) (hst : w.cell? ⟨SB, 11, none⟩ = some (.bool false)) :
    Calls Try.prog 23 #[p, .pointer (some ⟨SB, 0, none⟩), .int .i64 s] w fun e w' => e = .returned (.tuple #[]) ∧ w' = w := by
  go_enter Try.func23, Try.ntmps23
  go_wp2
  go_end0
  exact ⟨rfl, rfl⟩

theorem zzSeal16 (PB SB OB L s n : Nat) (X : Nat → Int) (w : World) (hL : L ≤ 1048576) (hs : s < L) (hn : n + s + 1 = L)
    (hp : w.cell? ⟨PB, 0, none⟩ = some (.slice (some ⟨OB, 0, none⟩) L L)) (hpf : w.frozen? ⟨PB, 0, none⟩ = false) (hst : w.cell? ⟨SB, 11, none⟩ = some (.bool true)) (hPO : PB ≠ OB)
    (hrow : w.rowIs OB 5 L (fun i => .int .u8 (X i))) :
    Calls Try.prog 16 #[.pointer (some ⟨PB, 0, none⟩), .pointer (some ⟨SB, 0, none⟩), .int .i64 s] w fun e w' => e = .returned (.tuple #[]) ∧
      ∃ g cap, w'.cell? ⟨PB, 0, none⟩ = some (.slice (some ⟨g, 0, none⟩) (L + un n - 1) cap) ∧ Pre w' g (L + un n - 1) (sealed X s n) ∧ Kept (fun k => k = PB ∨ k = OB) w w' := by
  have HROW : Hid (w.rowIs OB 5 L (fun i => .int .u8 (X i))) := hrow
  clear hrow
  go_enter Try.func16, Try.ntmps16
  go_wp2_with fail
  refine (sealStruct23 PB SB OB L s n X w hL hs hn hp hpf hst hPO HROW.out).mono ?_
  rintro e w' ⟨rfl, g, cap, h1, h2, h3⟩
  have H1 : Hid _ := h1
  have H2 : Hid _ := h2
  have H3 : Hid _ := h3
  clear h1 h2 h3
  go_wp2
  go_end0
  exact ⟨rfl, g, cap, H1.out, H2.out, H3.out⟩
theorem zzSeal16_no (p : Value) (SB s : Nat) (w : World) (hst : w.cell? ⟨SB, 11, none⟩ = some (.bool false)) :
    Calls Try.prog 16 #[p, .pointer (some ⟨SB, 0, none⟩), .int .i64 s] w fun e w' => e = .returned (.tuple #[]) ∧ w' = w := by
  go_enter Try.func16, Try.ntmps16
  go_wp2_with fail
  refine (sealStruct23_no _ _ _ _ hst).mono ?_
  rintro e w' ⟨rfl, rfl⟩
  go_wp2
  go_end0
  exact ⟨rfl, rfl⟩

end Go.Proofs.Qxb6604716a
