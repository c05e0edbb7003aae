/-
  THE WALK OF 'FnIntegerOfReadsWireNumber', for every input.
-/
import Derived.Test.Qxb6604716aIntA
import Derived.Test.Qxb6604716aIntB
import Derived.Test.Qxb6604716aIntC
import Derived.Test.Qxb6604716aIntD
namespace Go.Proofs.Qxb6604716a
open Go.RowKit
set_option linter.unusedVariables false

theorem int_walk (a : Option Addr) (n c : Nat) (X : Nat → Int) (big signed : Bool) (w : World) (hr : BRow w a n X) (hX : ∀ i, i < n → 0 ≤ X i ∧ X i ≤ 255) :
    Calls Try.prog 3 #[.slice a n c, .bool big, .bool signed] w fun e w' => e = .returned (.bool true) ∧ Below w.heap.size w w' := by
  by_cases h1 : n ≤ 1048576
  · by_cases hn : n = 1 ∨ n = 2 ∨ n = 4 ∨ n = 8
    · obtain ⟨b, off, rfl, hc⟩ := hr (by omega)
      rcases hn with rfl | rfl | rfl | rfl <;> cases big <;> cases signed
      · exact int_1_false_false b off c X w hX hc
      · exact int_1_false_true b off c X w hX hc
      · exact int_1_true_false b off c X w hX hc
      · exact int_1_true_true b off c X w hX hc
      · exact int_2_false_false b off c X w hX hc
      · exact int_2_false_true b off c X w hX hc
      · exact int_2_true_false b off c X w hX hc
      · exact int_2_true_true b off c X w hX hc
      · exact int_4_false_false b off c X w hX hc
      · exact int_4_false_true b off c X w hX hc
      · exact int_4_true_false b off c X w hX hc
      · exact int_4_true_true b off c X w hX hc
      · exact int_8_false_false b off c X w hX hc
      · exact int_8_false_true b off c X w hX hc
      · exact int_8_true_false b off c X w hX hc
      · exact int_8_true_true b off c X w hX hc
    · have e1 : ((n : Int) != 1) = true := by simp; omega
      have e2 : ((n : Int) != 2) = true := by simp; omega
      have e4 : ((n : Int) != 4) = true := by simp; omega
      have e8 : ((n : Int) != 8) = true := by simp; omega
      have h2 : ¬ (1048576 : Int) < (n : Int) := by omega
      clear hr hX hn
      go_enter Try.func3, Try.ntmps3
      go_wp2_with fail
      refine (bytes6 _ _ _ _ _ _ h1).mono ?_
      rintro e w' ⟨rfl, hw⟩
      subst w'
      go_wp2
      go_ret
      exact ⟨rfl, Below.refl _ _⟩
  · clear hr hX
    go_enter Try.func3, Try.ntmps3
    go_wp2_with fail
    refine (bytes6_no _ _ _ _ _ _ h1).mono ?_
    rintro e w' ⟨rfl, hw⟩
    subst w'
    go_wp2
    go_ret
    exact ⟨rfl, Below.refl _ _⟩

end Go.Proofs.Qxb6604716a
