/-
  THE PLAIN MATHEMATICS OF A UVARINT OF AT MOST THREE BYTES.
-/
namespace Go.Proofs.Qxb6604716a

/-- n without its last k groups of seven bits. -/
def uq (n k : Nat) : Nat := n / 128 ^ k
/-- How many bytes the uvarint of n (below 2^21) takes. -/
def un (n : Nat) : Nat := if n < 128 then 1 else if n < 16384 then 2 else 3
/-- Byte j of the uvarint of n. -/
def ub (n j : Nat) : Nat := if j + 1 < un n then uq n j % 128 + 128 else uq n j

theorem uq_zero (n : Nat) : uq n 0 = n := by simp [uq]
theorem uq_succ (n k : Nat) : uq n (k + 1) = uq n k / 128 := by rw [uq, uq, Nat.pow_succ, Nat.div_div_eq_div_mul]
theorem uq_le (n k : Nat) : uq n k ≤ n := Nat.div_le_self _ _
theorem un_cases (n : Nat) : (n < 128 ∧ un n = 1) ∨ (128 ≤ n ∧ n < 16384 ∧ un n = 2) ∨ (16384 ≤ n ∧ un n = 3) := by
  unfold un
  by_cases h1 : n < 128
  · rw [if_pos h1]; omega
  · rw [if_neg h1]
    by_cases h2 : n < 16384
    · rw [if_pos h2]; omega
    · rw [if_neg h2]; omega
theorem un_pos (n : Nat) : 1 ≤ un n := by have := un_cases n; omega
theorem un_le (n : Nat) : un n ≤ 3 := by have := un_cases n; omega
theorem un_one {n : Nat} : un n = 1 ↔ n < 128 := by have := un_cases n; omega

theorem uq_more {n k : Nat} (hn : n < 2097152) (hk : k < un n) : 128 ≤ uq n k ↔ k + 1 < un n := by
  have h0 := uq_zero n
  have h1 := uq_succ n 0
  have h2 := uq_succ n 1
  simp only [Nat.zero_add, Nat.reduceAdd] at h1 h2
  have hc := un_cases n
  obtain rfl | rfl | rfl : k = 0 ∨ k = 1 ∨ k = 2 := by omega
  all_goals omega

theorem ub_more {n j : Nat} (h : j + 1 < un n) : ub n j = uq n j % 128 + 128 := by rw [ub, if_pos h]
theorem ub_last {n j : Nat} (h : ¬ j + 1 < un n) : ub n j = uq n j := by rw [ub, if_neg h]
theorem ub_lt {n j : Nat} (hn : n < 2097152) (hj : j < un n) : ub n j < 256 := by
  by_cases h : j + 1 < un n
  · rw [ub_more h]; omega
  · rw [ub_last h]; have := uq_more hn hj; omega

/-- The last k groups of seven bits of n. -/
def lo (n k : Nat) : Nat := n % 128 ^ k
theorem lo_zero (n : Nat) : lo n 0 = 0 := by simp [lo, Nat.mod_one]
theorem lo_succ (n k : Nat) : lo n (k + 1) = lo n k + uq n k % 128 * 128 ^ k := by
  rw [lo, lo, uq, Nat.pow_succ, Nat.mod_mul, Nat.mul_comm (128 ^ k)]
theorem lo_lt (n k : Nat) : lo n k < 128 ^ k := Nat.mod_lt _ (Nat.pow_pos (by decide))
theorem lo_all {n : Nat} (hn : n < 2097152) : lo n (un n) = n := by
  rcases un_cases n with ⟨h, e⟩ | ⟨_, h, e⟩ | ⟨_, e⟩ <;> rw [e, lo] <;> exact Nat.mod_eq_of_lt (by omega)

/-- What the sealed row holds at place i: X before s, the uvarint of n at s, X's rest behind it. -/
def sealed (X : Nat → Int) (s n i : Nat) : Int := if i < s then X i else if i < s + un n then (ub n (i - s) : Int) else X (i + 1 - un n)

end Go.Proofs.Qxb6604716a
