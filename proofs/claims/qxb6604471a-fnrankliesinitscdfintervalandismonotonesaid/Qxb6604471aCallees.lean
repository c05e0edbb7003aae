import Derived.Test.Qxb6604471aFloat
import Derived.Test.Qxb6604471aChecked
import Derived.WalkKit
import Derived.Deep.LoopGhost
import Derived.Deep.OwnRows
import Derived.Deep.QuietTactic
import Derived.BigQuiet
import Derived.WalkSpells
namespace Go.Proofs.Qxb6604471a
open Go.RowKit
theorem run_store_float {P : Program} {w : World} {a : Addr} {m : Mode} (k : FloatKind) (n : Nat) : (store a (.float k n) m).run P w = stored P w a (.float k n) m := run_store P w a _ m rfl
attribute [local go_sem] binOp_fle run_store_float

/-- A ROW OF float64 IN MEMORY: an address (wanted only where there is an element), n elements, the words V 0 .. V (n - 1). -/
def FRow (w : World) (a : Option Addr) (n : Nat) (V : Nat → Nat) : Prop :=
  0 < n → ∃ b off, a = some ⟨b, off, none⟩ ∧ ∀ i, i < n → w.cell? ⟨b, off + i, none⟩ = some (.float .f64 (V i))

/-- zzBytes: a bound on the length. -/
theorem bytes5 (a : Option Addr) (n c u : Nat) (w : World) (hn : n ≤ 1048576) :
    Calls Try.prog 5 #[.slice a n c, .float .f64 u] w fun e w' => e = .returned (.bool true) ∧ w' = w := by
  have h1 : ¬ (1048576 : Int) < (n : Int) := by omega
  go_enter Try.func5, Try.ntmps5
  go_wp2
  go_ret
  exact ⟨rfl, rfl⟩
theorem bytes5_no (a : Option Addr) (n c u : Nat) (w : World) (hn : ¬ n ≤ 1048576) :
    Calls Try.prog 5 #[.slice a n c, .float .f64 u] w fun e w' => e = .returned (.bool false) ∧ w' = w := by
  have h1 : (1048576 : Int) < (n : Int) := by omega
  go_enter Try.func5, Try.ntmps5
  go_wp2
  go_ret
  exact ⟨rfl, rfl⟩

/-- THE CLOSURE: 'if c <= u { return -1 }; return 1'. -/
theorem cmp13 (x u : Nat) (w : World) : Calls Try.prog 13 #[.float .f64 x, .float .f64 u] w fun e w' => e = .returned (.int .i64 (if fle x u then -1 else 1)) ∧ w' = w := by
  by_cases h : fle x u = true
  · rw [if_pos h]
    go_enter Try.func13, Try.ntmps13
    go_wp2
    go_ret
    exact ⟨rfl, rfl⟩
  · rw [if_neg h]
    have h' : fle x u = false := by simpa using h
    clear h
    go_enter Try.func13, Try.ntmps13
    go_wp2
    go_ret
    exact ⟨rfl, rfl⟩


/-- zzCdfSorted: true only where no entry is below the one ahead of it. -/
theorem sorted6 (a : Option Addr) (n c : Nat) (V : Nat → Nat) (w : World) (hn : n ≤ 1048576) (hr : FRow w a n V) :
    Calls Try.prog 6 #[.slice a n c] w fun e w' => ∃ r : Bool, e = .returned (.bool r) ∧ (r = true → ∀ j, j + 1 < n → fle (V j) (V (j + 1)) = true) ∧ ∃ q, w' = w.drewN q := by
  have HR : Hid (FRow w a n V) := hr
  clear hr
  go_enter Try.func6, Try.ntmps6
  go_wp2
  go_loopw [3] (fun i wr => ∃ k : Nat, 1 ≤ k ∧ k ≤ n + 1 ∧ i = .int .i64 k ∧ Hid (∀ j, j + 1 < k → j + 1 < n → fle (V j) (V (j + 1)) = true) ∧ Hid (∃ q, wr = w.drewN q)) (fun i _ => n + 1 - (intOf i).toNat)
  case atStart => exact ⟨1, by omega, by omega, rfl, (fun j h => by omega), ⟨0, rfl⟩⟩
  case round =>
    obtain ⟨k, hk1, hk2, rfl, hs, hw⟩ := hrel
    obtain ⟨q, rfl⟩ := hw.out
    by_cases hlt : k < n
    · obtain ⟨b, off, rfl, hc⟩ := HR.out (by omega)
      have h0 := hc (k - 1) (by omega)
      have h1 := hc k hlt
      have i0 : (0 : Int) ≤ (k : Int) - 1 := by omega
      have i1 : (k : Int) - 1 < (n : Int) := by omega
      have i2 : (k : Int) < (n : Int) := by omega
      have e0 : ((k : Int) - 1).toNat = k - 1 := by omega
      clear hc
      by_cases hf : fle (V (k - 1)) (V k) = true
      · have HF : Hid (fle (V (k - 1)) (V k) = true) := hf
        go_wp2
        go_quiet (fail)
        go_wp2
        go_roundw
        case rel =>
          refine ⟨k + 1, by omega, by omega, by go_num, fun j h1 h2 => ?_, q + nq, by simp⟩
          by_cases hj : j + 1 < k
          · exact hs.out j hj h2
          · obtain rfl : k = j + 1 := by omega
            simpa using HF.out
        case measure => simp [intOf]; omega
      · have hf' : fle (V (k - 1)) (V k) = false := by simpa using hf
        clear hf
        go_wp2
        go_quiet (fail)
        go_wp2
        go_ret
        exact ⟨false, rfl, fun h => by simp at h, q + nq, by simp⟩
    · go_wp2
      go_ret
      exact ⟨true, rfl, fun _ j hj => hs.out j (by omega) hj, q, rfl⟩


theorem Try.info23 : (Try.prog.info? 23).map (fun i => (i.zero, i.size, i.bytes)) = some (some (.float .f64 0), 1, 8) := by kernel_rfl

/-- WHAT HOLDS AT THE CLONING LOOP's HEAD, k elements copied. -/
structure Cloned (w wr : World) (n k : Nat) (V : Nat → Nat) : Prop where
  below : Below w.heap.size w wr
  row : wr.rowIs w.heap.size 23 n (fun j => if j < k then .float .f64 (V j) else .float .f64 0)

theorem cloned_start (w : World) (n : Nat) (V : Nat → Nat) : Cloned w (w.alloc (.cells (madeCells #[.float .f64 0] n) 23)) n 0 V :=
  ⟨(Below.refl _ _).alloc (Nat.le_refl _) _, (World.rowIs_made w _ n 23).congr (fun j _ => by simp)⟩

theorem cloned_step {w wr : World} {n k : Nat} {V : Nat → Nat} (h : Cloned w wr n k V) : Cloned w (wr.setCell ⟨w.heap.size, k, none⟩ (.float .f64 (V k))) n (k + 1) V := by
  refine ⟨h.below.setCell (Nat.le_refl _) _, (h.row.set k _).congr (fun j _ => ?_)⟩
  by_cases e : j = k
  · subst e; simp
  · rw [if_neg e]
    by_cases hlt : j < k
    · rw [if_pos hlt, if_pos (by omega)]
    · rw [if_neg hlt, if_neg (by omega)]

theorem cloned_end {w wr : World} {n : Nat} {V : Nat → Nat} (h : Cloned w wr n n V) : FRow wr (some ⟨w.heap.size, 0, none⟩) n V := by
  intro _
  refine ⟨_, _, rfl, fun i hi => ?_⟩
  have := h.row.cell hi
  rw [if_pos hi] at this
  simpa using this

/-- zzCloneFloats. -/
theorem clone7 (a : Option Addr) (n c : Nat) (V : Nat → Nat) (w : World) (hn : n ≤ 1048576) (hr : FRow w a n V) :
    Calls Try.prog 7 #[.slice a n c] w fun e w' => ∃ a', e = .returned (.slice a' n n) ∧ FRow w' a' n V ∧ Below w.heap.size w w' := by
  have q22 : ∀ (w : World) (a : Option Addr) (n c n' c' : Nat), (binOp .eql 22 (.slice a n c) (.slice none n' c')).run Try.prog w = .ok (.bool a.isNone) w := fun w a n c n' c' => Lib.run_eql_slice_nil w _ _ a n c n' c' Try.underlying22
  cases a with
  | none =>
    obtain rfl : n = 0 := by
      by_cases h : 0 < n
      · obtain ⟨b, off, h, _⟩ := hr h
        cases h
      · omega
    clear hr
    go_enter Try.func7, Try.ntmps7
    go_wp2
    go_ret
    exact ⟨none, rfl, fun h => by omega, Below.refl _ _⟩
  | some x =>
    have HR : Hid (FRow w (some x) n V) := hr
    clear hr
    have hmk := run_make_row' (P := Try.prog) 22 23 (.float .f64 0) 8 Try.underlying22 Try.info23 rfl .i64 .i64 n (by omega) (by omega)
    go_enter Try.func7, Try.ntmps7
    go_wp2
    clear hmk q22
    go_loopw [4] (fun i wr => ∃ k : Nat, k ≤ n ∧ i = .int .i64 k ∧ Cloned w wr n k V) (fun i _ => n - (intOf i).toNat)
    case atStart => exact ⟨0, Nat.zero_le _, rfl, cloned_start w n V⟩
    case round =>
      obtain ⟨k, hk, rfl, hC⟩ := hrel
      by_cases hlt : k < n
      · obtain ⟨b, off, e, hc⟩ := HR.out (by omega)
        cases e
        have h0 : wr.cell? ⟨b, off + k, none⟩ = some (.float .f64 (V k)) := cell_later hC.below (hc k hlt)
        have h1 : wr.cell? ⟨w.heap.size, k, none⟩ = some (.float .f64 0) := by simpa using hC.row.cell hlt
        have h2 := hC.row.frozen k
        have i2 : (k : Int) < (n : Int) := by omega
        clear hc
        go_wp2
        go_roundw
        case rel => exact ⟨k + 1, by omega, by go_num, cloned_step hC⟩
        case measure => simp [intOf]; omega
      · obtain rfl : k = n := by omega
        go_wp2
        go_ret
        exact ⟨_, rfl, cloned_end hC, hC.below⟩

end Go.Proofs.Qxb6604471a
