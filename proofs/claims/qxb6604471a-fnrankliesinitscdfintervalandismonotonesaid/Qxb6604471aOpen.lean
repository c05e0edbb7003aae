/-
  HOW A SLICE OF float64 THAT CAME IN IS OPENED.
-/
import Derived.Test.Qxb6604471aCallees
import Derived.Test.Qxb6604471aRows
import Derived.ProofKit
import Derived.OpenShut
import Derived.ShutString
import Derived.ChangeOld
import Derived.Below
import Derived.Deep.Slices
import Derived.Laws.Cover2
namespace Go.Proofs.Qxb6604471a
open Go.ChangeShapes Go.WideShapes Go.ChangeAt Go.RowKit

section
variable {H : Type} {enc : TypeId × Value → H} {P : Program} {w : World} {base : Nat} {spare : Nat → Bool} {held : Bool} {t : TypeId} {cs : List Value} {x : DataW H × List MemPlace} {fuel : Nat}

theorem trod_float {k : FloatKind} (ht : P.underlying t = some (.float k)) (h : DataW.trod enc P w base spare held fuel t cs = some x) : ∃ n, cs = [.float k n] := by
  cases fuel with
  | zero => simp [DataW.trod] at h
  | succ n =>
    unfold DataW.trod at h
    rw [ht] at h
    split at h <;> simp_all
end

theorem open_frow {H : Type} {enc : TypeId × Value → H} {w : World} {base : Nat} {held : Bool} {a : Option Addr} {len cap : Nat} {d : DataW H} {ps : List MemPlace}
    (h : DataW.Trod enc Try.prog w base (fun _ => true) held 22 (.slice a len cap) d ps) : ∃ V, FRow w a len V := by
  obtain ⟨fuel, hf⟩ := h
  rcases Go.Deep.open_slice1 Try.underlying22 (by kernel_rfl) hf with ⟨hcs, _⟩ | ⟨x, l, c, m, n, V, D, Pl, hcs, _, hl, _, hm, _, hx⟩
  · simp [Value.cells] at hcs
    obtain ⟨rfl, rfl, rfl⟩ := hcs
    exact ⟨fun _ => 0, fun h => by omega⟩
  · simp [Value.cells] at hcs
    obtain ⟨rfl, rfl, rfl⟩ := hcs
    simp only [if_true] at hm
    have hv : ∀ i, i < len → ∃ b : Nat, V i = .float .f64 b := fun i hi => by
      obtain ⟨b, hb⟩ := trod_float Try.underlying23 (hx i (by omega)).2
      exact ⟨b, by simpa using hb⟩
    obtain ⟨F, hF⟩ := Go.Deep.choose_lt hv
    refine ⟨F, fun hpos => ?_⟩
    obtain ⟨b, off, spot⟩ := x
    have hspot : spot = none := by simpa [Addr.add] using World.cell?_spot (hx 0 (by omega)).1
    subst hspot
    refine ⟨b, off, rfl, fun i hi => ?_⟩
    have := (hx i (by omega)).1
    rw [hF i hi, add_plain] at this
    exact this
end Go.Proofs.Qxb6604471a
