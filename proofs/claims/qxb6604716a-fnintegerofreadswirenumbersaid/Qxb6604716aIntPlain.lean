/-
  THE PLAIN ARITHMETIC of signs and widths.
-/
import Derived.Test.Qxb6604716aNumber
namespace Go.Proofs.Qxb6604716a
open Go.RowKit
set_option linter.unusedVariables false

theorem beV_step {X : Nat → Int} {n j : Nat} (hn : n ≤ 8) (hj : j < n) (hX : ∀ i, i < n → 0 ≤ X i ∧ X i ≤ 255) : 0 ≤ beV X j ∧ beV X j * 256 + X j ≤ 18446744073709551615 ∧ 0 ≤ X j ∧ X j ≤ 255 := by
  have h1 := beV_bound hX j (by omega)
  have h2 := hX j hj
  obtain rfl | rfl | rfl | rfl | rfl | rfl | rfl | rfl : j = 0 ∨ j = 1 ∨ j = 2 ∨ j = 3 ∨ j = 4 ∨ j = 5 ∨ j = 6 ∨ j = 7 := by omega
  all_goals (simp only [Int.reducePow] at h1; omega)
theorem leV_step {X : Nat → Int} {n j : Nat} (hn : n ≤ 8) (hj : j < n) (hX : ∀ i, i < n → 0 ≤ X i ∧ X i ≤ 255) : 0 ≤ leV X n j ∧ leV X n j * 256 + X (n - 1 - j) ≤ 18446744073709551615 ∧ 0 ≤ X (n - 1 - j) ∧ X (n - 1 - j) ≤ 255 := by
  have h1 := leV_bound hX j (by omega)
  have h2 := hX (n - 1 - j) (by omega)
  obtain rfl | rfl | rfl | rfl | rfl | rfl | rfl | rfl : j = 0 ∨ j = 1 ∨ j = 2 ∨ j = 3 ∨ j = 4 ∨ j = 5 ∨ j = 6 ∨ j = 7 := by omega
  all_goals (simp only [Int.reducePow] at h1; omega)
theorem sext_no (n : Nat) (V : Int) : sext false n V = V := rfl
theorem neg_no (bts : Int) : neg false bts = false := rfl
theorem neg_hi {bts : Int} (h0 : 9223372036854775808 ≤ bts) (h1 : bts < 18446744073709551616) : neg true bts = true := by
  have : wrap64 bts < 0 := by unfold wrap64; omega
  simp [neg, this]
theorem neg_lo {bts : Int} (h0 : 0 ≤ bts) (h1 : bts < 9223372036854775808) : neg true bts = false := by
  have : ¬ wrap64 bts < 0 := by unfold wrap64; omega
  simp [neg]; unfold wrap64 at *; omega
theorem sext_lo_1 (V : Int) (h0 : 0 ≤ V) (h1 : V < 128) : sext true 1 V = V := by
  show IntKind.u64.wrap (wrap64 (V * 72057594037927936) / 72057594037927936) = V
  rw [IntKind.wrap_u64]; unfold wrap64; omega
theorem sext_hi_1 (V : Int) (h0 : 128 ≤ V) (h1 : V < 256) : sext true 1 V = V + 18446744073709551360 := by
  show IntKind.u64.wrap (wrap64 (V * 72057594037927936) / 72057594037927936) = V + 18446744073709551360
  rw [IntKind.wrap_u64]; unfold wrap64; omega
theorem top_1_false (X : Nat → Int) (hX : ∀ i, i < 1 → 0 ≤ X i ∧ X i ≤ 255) : 128 ≤ X 0 ↔ 128 ≤ val X 1 false := by
  have h0 := hX 0 (by decide)
  have e : val X 1 false = ((0 : Int) * 256 + X 0) := rfl
  omega
theorem top_1_true (X : Nat → Int) (hX : ∀ i, i < 1 → 0 ≤ X i ∧ X i ≤ 255) : 128 ≤ X 0 ↔ 128 ≤ val X 1 true := by
  have h0 := hX 0 (by decide)
  have e : val X 1 true = ((0 : Int) * 256 + X 0) := rfl
  omega
theorem fill_1_1 (V : Int) (h0 : 0 ≤ V) (h1 : V < 256) : bits .or .u64 V 65280 = V + 65280 := by
  have h := u64_or8 V 65280 (by omega) (by omega) (by omega) (by omega) (by omega)
  omega
theorem fill_1_2 (V : Int) (h0 : 0 ≤ V) (h1 : V < 256) : bits .or .u64 (V + 65280) 16711680 = V + 16776960 := by
  have h := u64_or16 (V + 65280) 16711680 (by omega) (by omega) (by omega) (by omega) (by omega)
  omega
theorem fill_1_3 (V : Int) (h0 : 0 ≤ V) (h1 : V < 256) : bits .or .u64 (V + 16776960) 4278190080 = V + 4294967040 := by
  have h := u64_or24 (V + 16776960) 4278190080 (by omega) (by omega) (by omega) (by omega) (by omega)
  omega
theorem fill_1_4 (V : Int) (h0 : 0 ≤ V) (h1 : V < 256) : bits .or .u64 (V + 4294967040) 1095216660480 = V + 1099511627520 := by
  have h := u64_or32 (V + 4294967040) 1095216660480 (by omega) (by omega) (by omega) (by omega) (by omega)
  omega
theorem fill_1_5 (V : Int) (h0 : 0 ≤ V) (h1 : V < 256) : bits .or .u64 (V + 1099511627520) 280375465082880 = V + 281474976710400 := by
  have h := u64_or40 (V + 1099511627520) 280375465082880 (by omega) (by omega) (by omega) (by omega) (by omega)
  omega
theorem fill_1_6 (V : Int) (h0 : 0 ≤ V) (h1 : V < 256) : bits .or .u64 (V + 281474976710400) 71776119061217280 = V + 72057594037927680 := by
  have h := u64_or48 (V + 281474976710400) 71776119061217280 (by omega) (by omega) (by omega) (by omega) (by omega)
  omega
theorem fill_1_7 (V : Int) (h0 : 0 ≤ V) (h1 : V < 256) : bits .or .u64 (V + 72057594037927680) 18374686479671623680 = V + 18446744073709551360 := by
  have h := u64_or56 (V + 72057594037927680) 18374686479671623680 (by omega) (by omega) (by omega) (by omega) (by omega)
  omega
theorem sext_lo_2 (V : Int) (h0 : 0 ≤ V) (h1 : V < 32768) : sext true 2 V = V := by
  show IntKind.u64.wrap (wrap64 (V * 281474976710656) / 281474976710656) = V
  rw [IntKind.wrap_u64]; unfold wrap64; omega
theorem sext_hi_2 (V : Int) (h0 : 32768 ≤ V) (h1 : V < 65536) : sext true 2 V = V + 18446744073709486080 := by
  show IntKind.u64.wrap (wrap64 (V * 281474976710656) / 281474976710656) = V + 18446744073709486080
  rw [IntKind.wrap_u64]; unfold wrap64; omega
theorem top_2_false (X : Nat → Int) (hX : ∀ i, i < 2 → 0 ≤ X i ∧ X i ≤ 255) : 128 ≤ X 1 ↔ 32768 ≤ val X 2 false := by
  have h0 := hX 0 (by decide)
  have h1 := hX 1 (by decide)
  have e : val X 2 false = (((0 : Int) * 256 + X 1) * 256 + X 0) := rfl
  omega
theorem top_2_true (X : Nat → Int) (hX : ∀ i, i < 2 → 0 ≤ X i ∧ X i ≤ 255) : 128 ≤ X 0 ↔ 32768 ≤ val X 2 true := by
  have h0 := hX 0 (by decide)
  have h1 := hX 1 (by decide)
  have e : val X 2 true = (((0 : Int) * 256 + X 0) * 256 + X 1) := rfl
  omega
theorem fill_2_2 (V : Int) (h0 : 0 ≤ V) (h1 : V < 65536) : bits .or .u64 V 16711680 = V + 16711680 := by
  have h := u64_or16 V 16711680 (by omega) (by omega) (by omega) (by omega) (by omega)
  omega
theorem fill_2_3 (V : Int) (h0 : 0 ≤ V) (h1 : V < 65536) : bits .or .u64 (V + 16711680) 4278190080 = V + 4294901760 := by
  have h := u64_or24 (V + 16711680) 4278190080 (by omega) (by omega) (by omega) (by omega) (by omega)
  omega
theorem fill_2_4 (V : Int) (h0 : 0 ≤ V) (h1 : V < 65536) : bits .or .u64 (V + 4294901760) 1095216660480 = V + 1099511562240 := by
  have h := u64_or32 (V + 4294901760) 1095216660480 (by omega) (by omega) (by omega) (by omega) (by omega)
  omega
theorem fill_2_5 (V : Int) (h0 : 0 ≤ V) (h1 : V < 65536) : bits .or .u64 (V + 1099511562240) 280375465082880 = V + 281474976645120 := by
  have h := u64_or40 (V + 1099511562240) 280375465082880 (by omega) (by omega) (by omega) (by omega) (by omega)
  omega
theorem fill_2_6 (V : Int) (h0 : 0 ≤ V) (h1 : V < 65536) : bits .or .u64 (V + 281474976645120) 71776119061217280 = V + 72057594037862400 := by
  have h := u64_or48 (V + 281474976645120) 71776119061217280 (by omega) (by omega) (by omega) (by omega) (by omega)
  omega
theorem fill_2_7 (V : Int) (h0 : 0 ≤ V) (h1 : V < 65536) : bits .or .u64 (V + 72057594037862400) 18374686479671623680 = V + 18446744073709486080 := by
  have h := u64_or56 (V + 72057594037862400) 18374686479671623680 (by omega) (by omega) (by omega) (by omega) (by omega)
  omega
theorem sext_lo_4 (V : Int) (h0 : 0 ≤ V) (h1 : V < 2147483648) : sext true 4 V = V := by
  show IntKind.u64.wrap (wrap64 (V * 4294967296) / 4294967296) = V
  rw [IntKind.wrap_u64]; unfold wrap64; omega
theorem sext_hi_4 (V : Int) (h0 : 2147483648 ≤ V) (h1 : V < 4294967296) : sext true 4 V = V + 18446744069414584320 := by
  show IntKind.u64.wrap (wrap64 (V * 4294967296) / 4294967296) = V + 18446744069414584320
  rw [IntKind.wrap_u64]; unfold wrap64; omega
theorem top_4_false (X : Nat → Int) (hX : ∀ i, i < 4 → 0 ≤ X i ∧ X i ≤ 255) : 128 ≤ X 3 ↔ 2147483648 ≤ val X 4 false := by
  have h0 := hX 0 (by decide)
  have h1 := hX 1 (by decide)
  have h2 := hX 2 (by decide)
  have h3 := hX 3 (by decide)
  have e : val X 4 false = (((((0 : Int) * 256 + X 3) * 256 + X 2) * 256 + X 1) * 256 + X 0) := rfl
  omega
theorem top_4_true (X : Nat → Int) (hX : ∀ i, i < 4 → 0 ≤ X i ∧ X i ≤ 255) : 128 ≤ X 0 ↔ 2147483648 ≤ val X 4 true := by
  have h0 := hX 0 (by decide)
  have h1 := hX 1 (by decide)
  have h2 := hX 2 (by decide)
  have h3 := hX 3 (by decide)
  have e : val X 4 true = (((((0 : Int) * 256 + X 0) * 256 + X 1) * 256 + X 2) * 256 + X 3) := rfl
  omega
theorem fill_4_4 (V : Int) (h0 : 0 ≤ V) (h1 : V < 4294967296) : bits .or .u64 V 1095216660480 = V + 1095216660480 := by
  have h := u64_or32 V 1095216660480 (by omega) (by omega) (by omega) (by omega) (by omega)
  omega
theorem fill_4_5 (V : Int) (h0 : 0 ≤ V) (h1 : V < 4294967296) : bits .or .u64 (V + 1095216660480) 280375465082880 = V + 281470681743360 := by
  have h := u64_or40 (V + 1095216660480) 280375465082880 (by omega) (by omega) (by omega) (by omega) (by omega)
  omega
theorem fill_4_6 (V : Int) (h0 : 0 ≤ V) (h1 : V < 4294967296) : bits .or .u64 (V + 281470681743360) 71776119061217280 = V + 72057589742960640 := by
  have h := u64_or48 (V + 281470681743360) 71776119061217280 (by omega) (by omega) (by omega) (by omega) (by omega)
  omega
theorem fill_4_7 (V : Int) (h0 : 0 ≤ V) (h1 : V < 4294967296) : bits .or .u64 (V + 72057589742960640) 18374686479671623680 = V + 18446744069414584320 := by
  have h := u64_or56 (V + 72057589742960640) 18374686479671623680 (by omega) (by omega) (by omega) (by omega) (by omega)
  omega
theorem sext_lo_8 (V : Int) (h0 : 0 ≤ V) (h1 : V < 9223372036854775808) : sext true 8 V = V := by
  show IntKind.u64.wrap (wrap64 (V * 1) / 1) = V
  rw [IntKind.wrap_u64]; unfold wrap64; omega
theorem sext_hi_8 (V : Int) (h0 : 9223372036854775808 ≤ V) (h1 : V < 18446744073709551616) : sext true 8 V = V + 0 := by
  show IntKind.u64.wrap (wrap64 (V * 1) / 1) = V + 0
  rw [IntKind.wrap_u64]; unfold wrap64; omega
theorem top_8_false (X : Nat → Int) (hX : ∀ i, i < 8 → 0 ≤ X i ∧ X i ≤ 255) : 128 ≤ X 7 ↔ 9223372036854775808 ≤ val X 8 false := by
  have h0 := hX 0 (by decide)
  have h1 := hX 1 (by decide)
  have h2 := hX 2 (by decide)
  have h3 := hX 3 (by decide)
  have h4 := hX 4 (by decide)
  have h5 := hX 5 (by decide)
  have h6 := hX 6 (by decide)
  have h7 := hX 7 (by decide)
  have e : val X 8 false = (((((((((0 : Int) * 256 + X 7) * 256 + X 6) * 256 + X 5) * 256 + X 4) * 256 + X 3) * 256 + X 2) * 256 + X 1) * 256 + X 0) := rfl
  omega
theorem top_8_true (X : Nat → Int) (hX : ∀ i, i < 8 → 0 ≤ X i ∧ X i ≤ 255) : 128 ≤ X 0 ↔ 9223372036854775808 ≤ val X 8 true := by
  have h0 := hX 0 (by decide)
  have h1 := hX 1 (by decide)
  have h2 := hX 2 (by decide)
  have h3 := hX 3 (by decide)
  have h4 := hX 4 (by decide)
  have h5 := hX 5 (by decide)
  have h6 := hX 6 (by decide)
  have h7 := hX 7 (by decide)
  have e : val X 8 true = (((((((((0 : Int) * 256 + X 0) * 256 + X 1) * 256 + X 2) * 256 + X 3) * 256 + X 4) * 256 + X 5) * 256 + X 6) * 256 + X 7) := rfl
  omega
end Go.Proofs.Qxb6604716a
