/-
  THE CALLEE's CONTRACT: ZZjsonFrameSize: size + count - 1, wraps and all; and the plain arithmetic of wrapped sums.
-/
import Derived.Test.Qxb6604553aChecked
import Derived.WalkKit
import Derived.ProofKit
namespace Go.Proofs.Qxb6604553a
open Go.RowKit

def fsz (c s : Int) : Int := wrap64 (wrap64 (s + c) - 1)

theorem size5 (c s : Int) (w : World) :
    Calls Try.prog 5 #[.int .i64 c, .int .i64 s] w fun e w' => e = .returned (.int .i64 (fsz c s)) ∧ w' = w.alloc (.cells #[] 26) := by
  unfold fsz
  go_enter Try.func5, Try.ntmps5
  go_wp2
  go_ret
  exact ⟨rfl, rfl⟩

/-! ### The plain arithmetic -/
theorem fsz_one (s : Int) (h1 : -9223372036854775808 ≤ s) (h2 : s ≤ 9223372036854775807) : fsz 1 s = s := by unfold fsz wrap64; omega
theorem fsz_join (a s b t : Int) : fsz (wrap64 (a + b)) (wrap64 (s + t)) = wrap64 (wrap64 (fsz a s + fsz b t) + 1) := by unfold fsz wrap64; omega
theorem fsz_eq (c s : Int) : fsz c s = wrap64 (s + c - 1) := by unfold fsz wrap64; omega
theorem wrap_add (x y : Int) : wrap64 (wrap64 x + y) = wrap64 (x + y) := by unfold wrap64; omega
theorem wrap_add2 (x y z : Int) : wrap64 (wrap64 (wrap64 x + y) + z) = wrap64 (x + y + z) := by unfold wrap64; omega

/-- The frame's length behind k messages of 'sh' bytes each, a separator between each two. -/
def tot (sh : Int) (k : Nat) : Int := if k = 0 then 0 else (k : Int) * sh + ((k : Int) - 1)
theorem tot_zero (sh : Int) : tot sh 0 = 0 := rfl
theorem tot_one (sh : Int) : tot sh 1 = sh := by simp [tot]
theorem tot_succ (sh : Int) (k : Nat) (h : k ≠ 0) : tot sh (k + 1) = tot sh k + 1 + sh := by
  unfold tot
  rw [if_neg h, if_neg (by omega)]
  rw [show (((k + 1 : Nat) : Int)) = (k : Int) + 1 by omega, Int.add_mul, Int.one_mul]
  omega
/-- The last message takes what is left of 'size'. -/
theorem tot_last (sh size : Int) (k : Nat) (h : k ≠ 0) : wrap64 (wrap64 (wrap64 (tot sh k) + 1) + wrap64 (size - wrap64 ((k : Int) * sh))) = fsz ((k : Int) + 1) size := by
  rw [fsz_eq]
  unfold tot
  rw [if_neg h]
  generalize (k : Int) * sh = x
  unfold wrap64
  omega
theorem tot_last0 (size : Int) : wrap64 (wrap64 0 + wrap64 (size - wrap64 0)) = fsz 1 size := by
  unfold fsz wrap64; omega

end Go.Proofs.Qxb6604553a
