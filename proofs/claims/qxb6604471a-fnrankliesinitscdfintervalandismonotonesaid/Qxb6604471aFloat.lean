/-
  THE PLAIN LAW ON FLOATS: '<=' on float64 as a Bool function of the two words, and that it is transitive (a NaN is at most nothing, and nothing is at most a NaN).
-/
import Derived.WalkKit
namespace Go.Proofs.Qxb6604471a

/-- Go's '<=' on two words of float64. -/
def fle (a b : Nat) : Bool := FloatKind.f64.format.order a b == some .lt || FloatKind.f64.format.order a b == some .eq

theorem binOp_fle (t : TypeId) (a b : Nat) : binOp .leq t (.float .f64 a) (.float .f64 b) = pure (.bool (fle a b)) := by
  simp [binOp, Op.floatCmp, fle]

theorem signed_up (s : Bool) (m k r : Nat) : Ieee.signed s m (k + r) = Ieee.signed s m k * (2 ^ r : Nat) := by
  unfold Ieee.signed
  rw [Nat.shiftLeft_eq, Nat.shiftLeft_eq, Nat.pow_add, ← Nat.mul_assoc]
  cases s
  · simp [Int.natCast_mul]
  · simp [Int.natCast_mul, Int.neg_mul]

def leD (d e : Ieee.Datum) : Prop := d.order e = some .lt ∨ d.order e = some .eq

theorem fle_iff (a b : Nat) : fle a b = true ↔ leD (FloatKind.f64.format.read a) (FloatKind.f64.format.read b) := by
  unfold fle leD Ieee.Format.order
  simp

theorem compare_le (x y : Int) : (some (compare x y) = some Ordering.lt ∨ some (compare x y) = some Ordering.eq) ↔ x ≤ y := by
  simp only [Option.some.injEq]
  rw [Int.compare_eq_lt, Int.compare_eq_eq]
  omega

theorem le_num (s t : Bool) (m n : Nat) (i j : Int) (r : Nat) :
    leD (.number s m i) (.number t n j) ↔ Ieee.signed s m ((i - min i j).toNat + r) ≤ Ieee.signed t n ((j - min i j).toNat + r) := by
  unfold leD Ieee.Datum.order
  simp only
  rw [compare_le, signed_up, signed_up]
  have hp : (0 : Int) < ((2 ^ r : Nat) : Int) := by
    have := Nat.two_pow_pos r
    omega
  exact ⟨fun h => Int.mul_le_mul_of_nonneg_right h (Int.le_of_lt hp), fun h => Int.le_of_mul_le_mul_right h hp⟩

theorem le_base (s t : Bool) (m n : Nat) (i j base : Int) (h : base ≤ min i j) :
    leD (.number s m i) (.number t n j) ↔ Ieee.signed s m (i - base).toNat ≤ Ieee.signed t n (j - base).toNat := by
  rw [le_num s t m n i j (min i j - base).toNat]
  rw [show (i - min i j).toNat + (min i j - base).toNat = (i - base).toNat by omega, show (j - min i j).toNat + (min i j - base).toNat = (j - base).toNat by omega]

theorem leD_trans {a b c : Ieee.Datum} (h : leD a b) (k : leD b c) : leD a c := by
  cases a with
  | nan _ _ => simp [leD, Ieee.Datum.order] at h
  | infinity s =>
    cases b with
    | nan _ _ => simp [leD, Ieee.Datum.order] at h
    | infinity t =>
      cases c with
      | nan _ _ => simp [leD, Ieee.Datum.order] at k
      | infinity u => revert h k; unfold leD; cases s <;> cases t <;> cases u <;> decide
      | number u n j => revert h k; cases s <;> cases t <;> simp [leD, Ieee.Datum.order] <;> decide
    | number t n j =>
      cases c with
      | nan _ _ => simp [leD, Ieee.Datum.order] at k
      | infinity u => revert h k; cases s <;> cases u <;> simp [leD, Ieee.Datum.order] <;> decide
      | number u n' j' => revert h; cases s <;> simp [leD, Ieee.Datum.order]
  | number s m i =>
    cases b with
    | nan _ _ => simp [leD, Ieee.Datum.order] at h
    | infinity t =>
      cases c with
      | nan _ _ => simp [leD, Ieee.Datum.order] at k
      | infinity u => revert h k; cases t <;> cases u <;> simp [leD, Ieee.Datum.order] <;> decide
      | number u n' j' => revert h k; cases t <;> simp [leD, Ieee.Datum.order]
    | number t n j =>
      cases c with
      | nan _ _ => simp [leD, Ieee.Datum.order] at k
      | infinity u => revert k; cases u <;> simp [leD, Ieee.Datum.order]
      | number u n' j' =>
        rw [le_base _ _ _ _ _ _ (min (min i j) j') (by omega)] at h k ⊢
        exact Int.le_trans h k

theorem fle_trans {a b c : Nat} (h : fle a b = true) (k : fle b c = true) : fle a c = true := by
  rw [fle_iff] at h k ⊢
  exact leD_trans h k

end Go.Proofs.Qxb6604471a
