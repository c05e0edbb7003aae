/-
  THE PLAIN MATHEMATICS: the decimal digits of a number, written from the last, read from the first.
-/
namespace Go.Proofs.Qxb6604533a

/-- n without its last k digits. -/
def q10 (n k : Nat) : Nat := n / 10 ^ k
/-- 10 to the k. -/
def pw (k : Nat) : Nat := 10 ^ k
/-- Of the last L digits of n the first k, read as a number. -/
def rd (n L k : Nat) : Nat := n / 10 ^ (L - k) % 10 ^ k
/-- n modulo 10 to the L. -/
def low (n L : Nat) : Nat := n % 10 ^ L

theorem q10_zero (n : Nat) : q10 n 0 = n := by simp [q10]
theorem q10_succ (n k : Nat) : q10 n (k + 1) = q10 n k / 10 := by rw [q10, q10, Nat.pow_succ, Nat.div_div_eq_div_mul]
theorem q10_le (n k : Nat) : q10 n k ≤ n := Nat.div_le_self _ _
theorem pw_zero : pw 0 = 1 := rfl
theorem pw_succ (k : Nat) : pw (k + 1) = pw k * 10 := Nat.pow_succ ..
theorem pw_mono {j k : Nat} (h : j ≤ k) : pw j ≤ pw k := Nat.pow_le_pow_right (by decide) h
theorem pw_pos (k : Nat) : 0 < pw k := Nat.pow_pos (by decide)
theorem rd_zero (n L : Nat) : rd n L 0 = 0 := by simp [rd, Nat.mod_one]
theorem rd_all (n L : Nat) : rd n L L = low n L := by simp [rd, low]
theorem rd_le (n L k : Nat) : rd n L k ≤ n := Nat.le_trans (Nat.mod_le _ _) (Nat.div_le_self _ _)
theorem rd_succ (n L k : Nat) (h : k < L) : rd n L (k + 1) = 10 * rd n L k + q10 n (L - 1 - k) % 10 := by
  unfold rd q10
  rw [show L - (k + 1) = L - 1 - k by omega, show L - k = (L - 1 - k) + 1 by omega, Nat.pow_succ 10 k, Nat.pow_succ 10 (L - 1 - k), ← Nat.div_div_eq_div_mul, Nat.mul_comm (10 ^ k) 10, Nat.mod_mul]
  omega

/-- Nothing is left: n is its own last L digits. -/
theorem low_small {n k L : Nat} (h : q10 n k = 0) (hk : k ≤ L) : low n L = n := by
  unfold low
  refine Nat.mod_eq_of_lt (Nat.lt_of_lt_of_le ?_ (Nat.pow_le_pow_right (by decide : 0 < 10) hk))
  unfold q10 at h
  rcases Nat.div_eq_zero_iff.1 h with h | h
  · have := Nat.pow_pos (n := k) (by decide : 0 < 10); omega
  · exact h

theorem q_pw_le (n k : Nat) : q10 n k * pw k ≤ n := Nat.div_mul_le_self _ _
theorem low_great (n L : Nat) : low n L = n - q10 n L * pw L := by
  unfold low q10 pw
  have := Nat.div_add_mod n (10 ^ L)
  rw [Nat.mul_comm] at this
  omega
theorem pw_le {n L : Nat} (h : q10 n L ≠ 0) : pw L ≤ n := by
  refine Nat.le_trans ?_ (q_pw_le n L)
  exact Nat.le_mul_of_pos_left _ (by omega)

end Go.Proofs.Qxb6604533a
