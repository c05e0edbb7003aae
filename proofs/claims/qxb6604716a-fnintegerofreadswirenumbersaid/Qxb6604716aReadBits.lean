/-
  readBits, for one, two, four and eight bytes in either byte order.
-/
import Derived.Test.Qxb6604716aEndian
namespace Go.Proofs.Qxb6604716a
open Go.RowKit
set_option linter.unusedVariables false

/-- The number that n bytes spell. -/
def val (X : Nat → Int) (n : Nat) (big : Bool) : Int := if big then beV X n else leV X n n

theorem beV_bound {X : Nat → Int} {n : Nat} (hX : ∀ i, i < n → 0 ≤ X i ∧ X i ≤ 255) : ∀ j, j ≤ n → 0 ≤ beV X j ∧ beV X j < 256 ^ j
  | 0, _ => by simp [beV]
  | j + 1, h => by
    have ih := beV_bound hX j (by omega)
    have hb := hX j (by omega)
    simp only [beV, Int.pow_succ]
    omega
theorem leV_bound {X : Nat → Int} {n : Nat} (hX : ∀ i, i < n → 0 ≤ X i ∧ X i ≤ 255) : ∀ j, j ≤ n → 0 ≤ leV X n j ∧ leV X n j < 256 ^ j
  | 0, _ => by simp [leV]
  | j + 1, h => by
    have ih := leV_bound hX j (by omega)
    have hb := hX (n - 1 - j) (by omega)
    simp only [leV, Int.pow_succ]
    omega
theorem val_bound {X : Nat → Int} {n : Nat} (big : Bool) (hX : ∀ i, i < n → 0 ≤ X i ∧ X i ≤ 255) : 0 ≤ val X n big ∧ val X n big < 256 ^ n := by
  unfold val
  cases big
  · exact leV_bound hX n (Nat.le_refl _)
  · exact beV_bound hX n (Nat.le_refl _)

theorem readBits_1_false (b : Nat) (X : Nat → Int) (w : World) (hX : ∀ i, i < 1 → 0 ≤ X i ∧ X i ≤ 255) (hc : ∀ i, i < 1 → w.cell? ⟨b, i, none⟩ = some (.int .u8 (X i))) :
    Calls Try.prog 25 #[.slice (some ⟨b, 0, none⟩) 1 1, .bool false] w fun e w' => e = .returned (.int .u64 (val X 1 false)) ∧ Below w.heap.size w w' := by
  have c0 := hc 0 (by decide)
  obtain ⟨h0, h1⟩ := hX 0 (by decide)
  have HV : Hid (val X 1 false = X 0) := (by have e : val X 1 false = 0 * 256 + X 0 := rfl; omega : val X 1 false = X 0)
  clear hX hc
  go_enter Try.func25, Try.ntmps25
  go_wp2
  go_ret
  exact ⟨by rw [HV.out]; rfl, Below.refl _ _⟩
set_option maxRecDepth 100000 in
theorem readBits_2_false (b : Nat) (X : Nat → Int) (w : World) (hX : ∀ i, i < 2 → 0 ≤ X i ∧ X i ≤ 255) (hc : ∀ i, i < 2 → w.cell? ⟨b, i, none⟩ = some (.int .u8 (X i))) :
    Calls Try.prog 25 #[.slice (some ⟨b, 0, none⟩) 2 2, .bool false] w fun e w' => e = .returned (.int .u64 (val X 2 false)) ∧ Below w.heap.size w w' := by
  have HC : Hid (∀ i, i < 2 → w.cell? ⟨b, i, none⟩ = some (.int .u8 (X i))) := hc
  have HX : Hid (∀ i, i < 2 → 0 ≤ X i ∧ X i ≤ 255) := hX
  have hm : ∀ w, Sem.run Try.prog (method 239 72 (Value.agg #[]) "Uint16") w = .ok (52, .agg #[]) w := fun w => by kernel_rfl
  have hb : 0 ≤ leV X 2 2 ∧ leV X 2 2 < 65536 := leV_bound hX 2 (Nat.le_refl _)
  obtain ⟨h0, h1⟩ := hb
  clear hc hX
  show Calls Try.prog 25 #[.slice (some ⟨b, 0, none⟩) 2 2, .bool false] w fun e w' => e = .returned (.int .u64 (leV X 2 2)) ∧ Below w.heap.size w w'
  go_enter Try.func25, Try.ntmps25
  go_wp2_with fail
  refine (leUint16 b X w HX.out HC.out).mono ?_
  rintro e w' ⟨rfl, hb⟩
  have HB : Hid (Below w.heap.size w w') := hb
  clear hb
  go_wp2
  go_ret
  exact ⟨rfl, HB.out⟩
set_option maxRecDepth 100000 in
theorem readBits_4_false (b : Nat) (X : Nat → Int) (w : World) (hX : ∀ i, i < 4 → 0 ≤ X i ∧ X i ≤ 255) (hc : ∀ i, i < 4 → w.cell? ⟨b, i, none⟩ = some (.int .u8 (X i))) :
    Calls Try.prog 25 #[.slice (some ⟨b, 0, none⟩) 4 4, .bool false] w fun e w' => e = .returned (.int .u64 (val X 4 false)) ∧ Below w.heap.size w w' := by
  have HC : Hid (∀ i, i < 4 → w.cell? ⟨b, i, none⟩ = some (.int .u8 (X i))) := hc
  have HX : Hid (∀ i, i < 4 → 0 ≤ X i ∧ X i ≤ 255) := hX
  have hm : ∀ w, Sem.run Try.prog (method 239 72 (Value.agg #[]) "Uint32") w = .ok (53, .agg #[]) w := fun w => by kernel_rfl
  have hb : 0 ≤ leV X 4 4 ∧ leV X 4 4 < 4294967296 := leV_bound hX 4 (Nat.le_refl _)
  obtain ⟨h0, h1⟩ := hb
  clear hc hX
  show Calls Try.prog 25 #[.slice (some ⟨b, 0, none⟩) 4 4, .bool false] w fun e w' => e = .returned (.int .u64 (leV X 4 4)) ∧ Below w.heap.size w w'
  go_enter Try.func25, Try.ntmps25
  go_wp2_with fail
  refine (leUint32 b X w HX.out HC.out).mono ?_
  rintro e w' ⟨rfl, hb⟩
  have HB : Hid (Below w.heap.size w w') := hb
  clear hb
  go_wp2
  go_ret
  exact ⟨rfl, HB.out⟩
set_option maxRecDepth 100000 in
theorem readBits_8_false (b : Nat) (X : Nat → Int) (w : World) (hX : ∀ i, i < 8 → 0 ≤ X i ∧ X i ≤ 255) (hc : ∀ i, i < 8 → w.cell? ⟨b, i, none⟩ = some (.int .u8 (X i))) :
    Calls Try.prog 25 #[.slice (some ⟨b, 0, none⟩) 8 8, .bool false] w fun e w' => e = .returned (.int .u64 (val X 8 false)) ∧ Below w.heap.size w w' := by
  have HC : Hid (∀ i, i < 8 → w.cell? ⟨b, i, none⟩ = some (.int .u8 (X i))) := hc
  have HX : Hid (∀ i, i < 8 → 0 ≤ X i ∧ X i ≤ 255) := hX
  have hm : ∀ w, Sem.run Try.prog (method 239 72 (Value.agg #[]) "Uint64") w = .ok (54, .agg #[]) w := fun w => by kernel_rfl
  have hb : 0 ≤ leV X 8 8 ∧ leV X 8 8 < 18446744073709551616 := leV_bound hX 8 (Nat.le_refl _)
  obtain ⟨h0, h1⟩ := hb
  clear hc hX
  show Calls Try.prog 25 #[.slice (some ⟨b, 0, none⟩) 8 8, .bool false] w fun e w' => e = .returned (.int .u64 (leV X 8 8)) ∧ Below w.heap.size w w'
  go_enter Try.func25, Try.ntmps25
  go_wp2_with fail
  refine (leUint64 b X w HX.out HC.out).mono ?_
  rintro e w' ⟨rfl, hb⟩
  have HB : Hid (Below w.heap.size w w') := hb
  clear hb
  go_wp2
  go_ret
  exact ⟨rfl, HB.out⟩
theorem readBits_1_true (b : Nat) (X : Nat → Int) (w : World) (hX : ∀ i, i < 1 → 0 ≤ X i ∧ X i ≤ 255) (hc : ∀ i, i < 1 → w.cell? ⟨b, i, none⟩ = some (.int .u8 (X i))) :
    Calls Try.prog 25 #[.slice (some ⟨b, 0, none⟩) 1 1, .bool true] w fun e w' => e = .returned (.int .u64 (val X 1 true)) ∧ Below w.heap.size w w' := by
  have c0 := hc 0 (by decide)
  obtain ⟨h0, h1⟩ := hX 0 (by decide)
  have HV : Hid (val X 1 true = X 0) := (by have e : val X 1 true = 0 * 256 + X 0 := rfl; omega : val X 1 true = X 0)
  clear hX hc
  go_enter Try.func25, Try.ntmps25
  go_wp2
  go_ret
  exact ⟨by rw [HV.out]; rfl, Below.refl _ _⟩
set_option maxRecDepth 100000 in
theorem readBits_2_true (b : Nat) (X : Nat → Int) (w : World) (hX : ∀ i, i < 2 → 0 ≤ X i ∧ X i ≤ 255) (hc : ∀ i, i < 2 → w.cell? ⟨b, i, none⟩ = some (.int .u8 (X i))) :
    Calls Try.prog 25 #[.slice (some ⟨b, 0, none⟩) 2 2, .bool true] w fun e w' => e = .returned (.int .u64 (val X 2 true)) ∧ Below w.heap.size w w' := by
  have HC : Hid (∀ i, i < 2 → w.cell? ⟨b, i, none⟩ = some (.int .u8 (X i))) := hc
  have HX : Hid (∀ i, i < 2 → 0 ≤ X i ∧ X i ≤ 255) := hX
  have hm : ∀ w, Sem.run Try.prog (method 239 75 (Value.agg #[]) "Uint16") w = .ok (60, .agg #[]) w := fun w => by kernel_rfl
  have hb : 0 ≤ beV X 2 ∧ beV X 2 < 65536 := beV_bound hX 2 (Nat.le_refl _)
  obtain ⟨h0, h1⟩ := hb
  clear hc hX
  show Calls Try.prog 25 #[.slice (some ⟨b, 0, none⟩) 2 2, .bool true] w fun e w' => e = .returned (.int .u64 (beV X 2)) ∧ Below w.heap.size w w'
  go_enter Try.func25, Try.ntmps25
  go_wp2_with fail
  refine (beUint16 b X w HX.out HC.out).mono ?_
  rintro e w' ⟨rfl, hb⟩
  have HB : Hid (Below w.heap.size w w') := hb
  clear hb
  go_wp2
  go_ret
  exact ⟨rfl, HB.out⟩
set_option maxRecDepth 100000 in
theorem readBits_4_true (b : Nat) (X : Nat → Int) (w : World) (hX : ∀ i, i < 4 → 0 ≤ X i ∧ X i ≤ 255) (hc : ∀ i, i < 4 → w.cell? ⟨b, i, none⟩ = some (.int .u8 (X i))) :
    Calls Try.prog 25 #[.slice (some ⟨b, 0, none⟩) 4 4, .bool true] w fun e w' => e = .returned (.int .u64 (val X 4 true)) ∧ Below w.heap.size w w' := by
  have HC : Hid (∀ i, i < 4 → w.cell? ⟨b, i, none⟩ = some (.int .u8 (X i))) := hc
  have HX : Hid (∀ i, i < 4 → 0 ≤ X i ∧ X i ≤ 255) := hX
  have hm : ∀ w, Sem.run Try.prog (method 239 75 (Value.agg #[]) "Uint32") w = .ok (61, .agg #[]) w := fun w => by kernel_rfl
  have hb : 0 ≤ beV X 4 ∧ beV X 4 < 4294967296 := beV_bound hX 4 (Nat.le_refl _)
  obtain ⟨h0, h1⟩ := hb
  clear hc hX
  show Calls Try.prog 25 #[.slice (some ⟨b, 0, none⟩) 4 4, .bool true] w fun e w' => e = .returned (.int .u64 (beV X 4)) ∧ Below w.heap.size w w'
  go_enter Try.func25, Try.ntmps25
  go_wp2_with fail
  refine (beUint32 b X w HX.out HC.out).mono ?_
  rintro e w' ⟨rfl, hb⟩
  have HB : Hid (Below w.heap.size w w') := hb
  clear hb
  go_wp2
  go_ret
  exact ⟨rfl, HB.out⟩
set_option maxRecDepth 100000 in
theorem readBits_8_true (b : Nat) (X : Nat → Int) (w : World) (hX : ∀ i, i < 8 → 0 ≤ X i ∧ X i ≤ 255) (hc : ∀ i, i < 8 → w.cell? ⟨b, i, none⟩ = some (.int .u8 (X i))) :
    Calls Try.prog 25 #[.slice (some ⟨b, 0, none⟩) 8 8, .bool true] w fun e w' => e = .returned (.int .u64 (val X 8 true)) ∧ Below w.heap.size w w' := by
  have HC : Hid (∀ i, i < 8 → w.cell? ⟨b, i, none⟩ = some (.int .u8 (X i))) := hc
  have HX : Hid (∀ i, i < 8 → 0 ≤ X i ∧ X i ≤ 255) := hX
  have hm : ∀ w, Sem.run Try.prog (method 239 75 (Value.agg #[]) "Uint64") w = .ok (62, .agg #[]) w := fun w => by kernel_rfl
  have hb : 0 ≤ beV X 8 ∧ beV X 8 < 18446744073709551616 := beV_bound hX 8 (Nat.le_refl _)
  obtain ⟨h0, h1⟩ := hb
  clear hc hX
  show Calls Try.prog 25 #[.slice (some ⟨b, 0, none⟩) 8 8, .bool true] w fun e w' => e = .returned (.int .u64 (beV X 8)) ∧ Below w.heap.size w w'
  go_enter Try.func25, Try.ntmps25
  go_wp2_with fail
  refine (beUint64 b X w HX.out HC.out).mono ?_
  rintro e w' ⟨rfl, hb⟩
  have HB : Hid (Below w.heap.size w w') := hb
  clear hb
  go_wp2
  go_ret
  exact ⟨rfl, HB.out⟩

theorem readBits25 (n b : Nat) (X : Nat → Int) (big : Bool) (w : World) (hn : n = 1 ∨ n = 2 ∨ n = 4 ∨ n = 8) (hX : ∀ i, i < n → 0 ≤ X i ∧ X i ≤ 255) (hc : ∀ i, i < n → w.cell? ⟨b, i, none⟩ = some (.int .u8 (X i))) :
    Calls Try.prog 25 #[.slice (some ⟨b, 0, none⟩) n n, .bool big] w fun e w' => e = .returned (.int .u64 (val X n big)) ∧ Below w.heap.size w w' := by
  rcases hn with rfl | rfl | rfl | rfl <;> cases big
  · exact readBits_1_false b X w hX hc
  · exact readBits_1_true b X w hX hc
  · exact readBits_2_false b X w hX hc
  · exact readBits_2_true b X w hX hc
  · exact readBits_4_false b X w hX hc
  · exact readBits_4_true b X w hX hc
  · exact readBits_8_false b X w hX hc
  · exact readBits_8_true b X w hX hc

end Go.Proofs.Qxb6604716a
