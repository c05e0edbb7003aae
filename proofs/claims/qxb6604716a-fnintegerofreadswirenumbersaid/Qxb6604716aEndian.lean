/-
  THE NUMBER THAT A FEW BYTES SPELL, in either byte order: encoding/binary's six readers, readBits, numberBits and the makers and readers around them.
-/
import Derived.Test.Qxb6604716aCallees
import Derived.Lib.EndianBits
import Derived.RegionTactic
import Derived.BigRegion
namespace Go.Proofs.Qxb6604716a
open Go.RowKit
set_option linter.unusedVariables false

/-- The first j bytes, the greatest first. -/
def beV (X : Nat → Int) : Nat → Int
  | 0 => 0
  | j + 1 => beV X j * 256 + X j
/-- The last j of n bytes, the least first. -/
def leV (X : Nat → Int) (n : Nat) : Nat → Int
  | 0 => 0
  | j + 1 => leV X n j * 256 + X (n - 1 - j)

set_option maxHeartbeats 8000000 in
set_option maxRecDepth 100000 in
theorem leUint16 (b : Nat) (X : Nat → Int) (w : World) (hX : ∀ i, i < 2 → 0 ≤ X i ∧ X i ≤ 255) (hc : ∀ i, i < 2 → w.cell? ⟨b, i, none⟩ = some (.int .u8 (X i))) :
    Calls Try.prog 52 #[.agg #[], .slice (some ⟨b, 0, none⟩) 2 2] w fun e w' => e = .returned (.int .u16 (leV X 2 2)) ∧ Below w.heap.size w w' := by
  have d0 : (w.alloc (.cells #[] 72)).cell? ⟨b, 0, none⟩ = some (.int .u8 (X 0)) := (Kept.alloc w _).cell (hc 0 (by decide)) (fun h => h)
  obtain ⟨h0, g0⟩ := hX 0 (by decide)
  have d1 : (w.alloc (.cells #[] 72)).cell? ⟨b, 1, none⟩ = some (.int .u8 (X 1)) := (Kept.alloc w _).cell (hc 1 (by decide)) (fun h => h)
  obtain ⟨h1, g1⟩ := hX 1 (by decide)
  have hv : leV X 2 2 = X 0 + X 1 * 256 := by
    have e : leV X 2 2 = (((0 : Int) * 256 + X 1) * 256 + X 0) := rfl
    omega
  have HV : Hid (leV X 2 2 = X 0 + X 1 * 256) := hv
  clear hX hc hv
  go_enter Try.func52, Try.ntmps52
  go_wp2
  go_quiet (fail)
  go_wp2
  go_ret
  refine ⟨?_, ((Below.refl _ w).alloc (Nat.le_refl _) _).trans ⟨rfl, rfl, rfl, Nat.le_refl _, fun _ _ => rfl⟩⟩
  rw [HV.out]
  simp (disch := omega) only [u16_or8]
  rfl

set_option maxHeartbeats 8000000 in
set_option maxRecDepth 100000 in
theorem leUint32 (b : Nat) (X : Nat → Int) (w : World) (hX : ∀ i, i < 4 → 0 ≤ X i ∧ X i ≤ 255) (hc : ∀ i, i < 4 → w.cell? ⟨b, i, none⟩ = some (.int .u8 (X i))) :
    Calls Try.prog 53 #[.agg #[], .slice (some ⟨b, 0, none⟩) 4 4] w fun e w' => e = .returned (.int .u32 (leV X 4 4)) ∧ Below w.heap.size w w' := by
  have d0 : (w.alloc (.cells #[] 72)).cell? ⟨b, 0, none⟩ = some (.int .u8 (X 0)) := (Kept.alloc w _).cell (hc 0 (by decide)) (fun h => h)
  obtain ⟨h0, g0⟩ := hX 0 (by decide)
  have d1 : (w.alloc (.cells #[] 72)).cell? ⟨b, 1, none⟩ = some (.int .u8 (X 1)) := (Kept.alloc w _).cell (hc 1 (by decide)) (fun h => h)
  obtain ⟨h1, g1⟩ := hX 1 (by decide)
  have d2 : (w.alloc (.cells #[] 72)).cell? ⟨b, 2, none⟩ = some (.int .u8 (X 2)) := (Kept.alloc w _).cell (hc 2 (by decide)) (fun h => h)
  obtain ⟨h2, g2⟩ := hX 2 (by decide)
  have d3 : (w.alloc (.cells #[] 72)).cell? ⟨b, 3, none⟩ = some (.int .u8 (X 3)) := (Kept.alloc w _).cell (hc 3 (by decide)) (fun h => h)
  obtain ⟨h3, g3⟩ := hX 3 (by decide)
  have hv : leV X 4 4 = X 0 + X 1 * 256 + X 2 * 65536 + X 3 * 16777216 := by
    have e : leV X 4 4 = (((((0 : Int) * 256 + X 3) * 256 + X 2) * 256 + X 1) * 256 + X 0) := rfl
    omega
  have HV : Hid (leV X 4 4 = X 0 + X 1 * 256 + X 2 * 65536 + X 3 * 16777216) := hv
  clear hX hc hv
  go_enter Try.func53, Try.ntmps53
  go_wp2
  go_quiet (fail)
  go_wp2
  go_ret
  refine ⟨?_, ((Below.refl _ w).alloc (Nat.le_refl _) _).trans ⟨rfl, rfl, rfl, Nat.le_refl _, fun _ _ => rfl⟩⟩
  rw [HV.out]
  simp (disch := omega) only [u32_or8, u32_or16, u32_or24]
  rfl

set_option maxHeartbeats 8000000 in
set_option maxRecDepth 100000 in
theorem leUint64 (b : Nat) (X : Nat → Int) (w : World) (hX : ∀ i, i < 8 → 0 ≤ X i ∧ X i ≤ 255) (hc : ∀ i, i < 8 → w.cell? ⟨b, i, none⟩ = some (.int .u8 (X i))) :
    Calls Try.prog 54 #[.agg #[], .slice (some ⟨b, 0, none⟩) 8 8] w fun e w' => e = .returned (.int .u64 (leV X 8 8)) ∧ Below w.heap.size w w' := by
  have d0 : (w.alloc (.cells #[] 72)).cell? ⟨b, 0, none⟩ = some (.int .u8 (X 0)) := (Kept.alloc w _).cell (hc 0 (by decide)) (fun h => h)
  obtain ⟨h0, g0⟩ := hX 0 (by decide)
  have d1 : (w.alloc (.cells #[] 72)).cell? ⟨b, 1, none⟩ = some (.int .u8 (X 1)) := (Kept.alloc w _).cell (hc 1 (by decide)) (fun h => h)
  obtain ⟨h1, g1⟩ := hX 1 (by decide)
  have d2 : (w.alloc (.cells #[] 72)).cell? ⟨b, 2, none⟩ = some (.int .u8 (X 2)) := (Kept.alloc w _).cell (hc 2 (by decide)) (fun h => h)
  obtain ⟨h2, g2⟩ := hX 2 (by decide)
  have d3 : (w.alloc (.cells #[] 72)).cell? ⟨b, 3, none⟩ = some (.int .u8 (X 3)) := (Kept.alloc w _).cell (hc 3 (by decide)) (fun h => h)
  obtain ⟨h3, g3⟩ := hX 3 (by decide)
  have d4 : (w.alloc (.cells #[] 72)).cell? ⟨b, 4, none⟩ = some (.int .u8 (X 4)) := (Kept.alloc w _).cell (hc 4 (by decide)) (fun h => h)
  obtain ⟨h4, g4⟩ := hX 4 (by decide)
  have d5 : (w.alloc (.cells #[] 72)).cell? ⟨b, 5, none⟩ = some (.int .u8 (X 5)) := (Kept.alloc w _).cell (hc 5 (by decide)) (fun h => h)
  obtain ⟨h5, g5⟩ := hX 5 (by decide)
  have d6 : (w.alloc (.cells #[] 72)).cell? ⟨b, 6, none⟩ = some (.int .u8 (X 6)) := (Kept.alloc w _).cell (hc 6 (by decide)) (fun h => h)
  obtain ⟨h6, g6⟩ := hX 6 (by decide)
  have d7 : (w.alloc (.cells #[] 72)).cell? ⟨b, 7, none⟩ = some (.int .u8 (X 7)) := (Kept.alloc w _).cell (hc 7 (by decide)) (fun h => h)
  obtain ⟨h7, g7⟩ := hX 7 (by decide)
  have hv : leV X 8 8 = X 0 + X 1 * 256 + X 2 * 65536 + X 3 * 16777216 + X 4 * 4294967296 + X 5 * 1099511627776 + X 6 * 281474976710656 + X 7 * 72057594037927936 := by
    have e : leV X 8 8 = (((((((((0 : Int) * 256 + X 7) * 256 + X 6) * 256 + X 5) * 256 + X 4) * 256 + X 3) * 256 + X 2) * 256 + X 1) * 256 + X 0) := rfl
    omega
  have HV : Hid (leV X 8 8 = X 0 + X 1 * 256 + X 2 * 65536 + X 3 * 16777216 + X 4 * 4294967296 + X 5 * 1099511627776 + X 6 * 281474976710656 + X 7 * 72057594037927936) := hv
  clear hX hc hv
  go_enter Try.func54, Try.ntmps54
  go_wp2
  go_quiet (fail)
  go_wp2
  go_ret
  refine ⟨?_, ((Below.refl _ w).alloc (Nat.le_refl _) _).trans ⟨rfl, rfl, rfl, Nat.le_refl _, fun _ _ => rfl⟩⟩
  rw [HV.out]
  simp (disch := omega) only [u64_or8, u64_or16, u64_or24, u64_or32, u64_or40, u64_or48, u64_or56]
  rfl

set_option maxHeartbeats 8000000 in
set_option maxRecDepth 100000 in
theorem beUint16 (b : Nat) (X : Nat → Int) (w : World) (hX : ∀ i, i < 2 → 0 ≤ X i ∧ X i ≤ 255) (hc : ∀ i, i < 2 → w.cell? ⟨b, i, none⟩ = some (.int .u8 (X i))) :
    Calls Try.prog 60 #[.agg #[], .slice (some ⟨b, 0, none⟩) 2 2] w fun e w' => e = .returned (.int .u16 (beV X 2)) ∧ Below w.heap.size w w' := by
  have d0 : (w.alloc (.cells #[] 75)).cell? ⟨b, 0, none⟩ = some (.int .u8 (X 0)) := (Kept.alloc w _).cell (hc 0 (by decide)) (fun h => h)
  obtain ⟨h0, g0⟩ := hX 0 (by decide)
  have d1 : (w.alloc (.cells #[] 75)).cell? ⟨b, 1, none⟩ = some (.int .u8 (X 1)) := (Kept.alloc w _).cell (hc 1 (by decide)) (fun h => h)
  obtain ⟨h1, g1⟩ := hX 1 (by decide)
  have hv : beV X 2 = X 1 + X 0 * 256 := by
    have e : beV X 2 = (((0 : Int) * 256 + X 0) * 256 + X 1) := rfl
    omega
  have HV : Hid (beV X 2 = X 1 + X 0 * 256) := hv
  clear hX hc hv
  go_enter Try.func60, Try.ntmps60
  go_wp2
  go_quiet (fail)
  go_wp2
  go_ret
  refine ⟨?_, ((Below.refl _ w).alloc (Nat.le_refl _) _).trans ⟨rfl, rfl, rfl, Nat.le_refl _, fun _ _ => rfl⟩⟩
  rw [HV.out]
  simp (disch := omega) only [u16_or8]
  rfl

set_option maxHeartbeats 8000000 in
set_option maxRecDepth 100000 in
theorem beUint32 (b : Nat) (X : Nat → Int) (w : World) (hX : ∀ i, i < 4 → 0 ≤ X i ∧ X i ≤ 255) (hc : ∀ i, i < 4 → w.cell? ⟨b, i, none⟩ = some (.int .u8 (X i))) :
    Calls Try.prog 61 #[.agg #[], .slice (some ⟨b, 0, none⟩) 4 4] w fun e w' => e = .returned (.int .u32 (beV X 4)) ∧ Below w.heap.size w w' := by
  have d0 : (w.alloc (.cells #[] 75)).cell? ⟨b, 0, none⟩ = some (.int .u8 (X 0)) := (Kept.alloc w _).cell (hc 0 (by decide)) (fun h => h)
  obtain ⟨h0, g0⟩ := hX 0 (by decide)
  have d1 : (w.alloc (.cells #[] 75)).cell? ⟨b, 1, none⟩ = some (.int .u8 (X 1)) := (Kept.alloc w _).cell (hc 1 (by decide)) (fun h => h)
  obtain ⟨h1, g1⟩ := hX 1 (by decide)
  have d2 : (w.alloc (.cells #[] 75)).cell? ⟨b, 2, none⟩ = some (.int .u8 (X 2)) := (Kept.alloc w _).cell (hc 2 (by decide)) (fun h => h)
  obtain ⟨h2, g2⟩ := hX 2 (by decide)
  have d3 : (w.alloc (.cells #[] 75)).cell? ⟨b, 3, none⟩ = some (.int .u8 (X 3)) := (Kept.alloc w _).cell (hc 3 (by decide)) (fun h => h)
  obtain ⟨h3, g3⟩ := hX 3 (by decide)
  have hv : beV X 4 = X 3 + X 2 * 256 + X 1 * 65536 + X 0 * 16777216 := by
    have e : beV X 4 = (((((0 : Int) * 256 + X 0) * 256 + X 1) * 256 + X 2) * 256 + X 3) := rfl
    omega
  have HV : Hid (beV X 4 = X 3 + X 2 * 256 + X 1 * 65536 + X 0 * 16777216) := hv
  clear hX hc hv
  go_enter Try.func61, Try.ntmps61
  go_wp2
  go_quiet (fail)
  go_wp2
  go_ret
  refine ⟨?_, ((Below.refl _ w).alloc (Nat.le_refl _) _).trans ⟨rfl, rfl, rfl, Nat.le_refl _, fun _ _ => rfl⟩⟩
  rw [HV.out]
  simp (disch := omega) only [u32_or8, u32_or16, u32_or24]
  rfl

set_option maxHeartbeats 8000000 in
set_option maxRecDepth 100000 in
theorem beUint64 (b : Nat) (X : Nat → Int) (w : World) (hX : ∀ i, i < 8 → 0 ≤ X i ∧ X i ≤ 255) (hc : ∀ i, i < 8 → w.cell? ⟨b, i, none⟩ = some (.int .u8 (X i))) :
    Calls Try.prog 62 #[.agg #[], .slice (some ⟨b, 0, none⟩) 8 8] w fun e w' => e = .returned (.int .u64 (beV X 8)) ∧ Below w.heap.size w w' := by
  have d0 : (w.alloc (.cells #[] 75)).cell? ⟨b, 0, none⟩ = some (.int .u8 (X 0)) := (Kept.alloc w _).cell (hc 0 (by decide)) (fun h => h)
  obtain ⟨h0, g0⟩ := hX 0 (by decide)
  have d1 : (w.alloc (.cells #[] 75)).cell? ⟨b, 1, none⟩ = some (.int .u8 (X 1)) := (Kept.alloc w _).cell (hc 1 (by decide)) (fun h => h)
  obtain ⟨h1, g1⟩ := hX 1 (by decide)
  have d2 : (w.alloc (.cells #[] 75)).cell? ⟨b, 2, none⟩ = some (.int .u8 (X 2)) := (Kept.alloc w _).cell (hc 2 (by decide)) (fun h => h)
  obtain ⟨h2, g2⟩ := hX 2 (by decide)
  have d3 : (w.alloc (.cells #[] 75)).cell? ⟨b, 3, none⟩ = some (.int .u8 (X 3)) := (Kept.alloc w _).cell (hc 3 (by decide)) (fun h => h)
  obtain ⟨h3, g3⟩ := hX 3 (by decide)
  have d4 : (w.alloc (.cells #[] 75)).cell? ⟨b, 4, none⟩ = some (.int .u8 (X 4)) := (Kept.alloc w _).cell (hc 4 (by decide)) (fun h => h)
  obtain ⟨h4, g4⟩ := hX 4 (by decide)
  have d5 : (w.alloc (.cells #[] 75)).cell? ⟨b, 5, none⟩ = some (.int .u8 (X 5)) := (Kept.alloc w _).cell (hc 5 (by decide)) (fun h => h)
  obtain ⟨h5, g5⟩ := hX 5 (by decide)
  have d6 : (w.alloc (.cells #[] 75)).cell? ⟨b, 6, none⟩ = some (.int .u8 (X 6)) := (Kept.alloc w _).cell (hc 6 (by decide)) (fun h => h)
  obtain ⟨h6, g6⟩ := hX 6 (by decide)
  have d7 : (w.alloc (.cells #[] 75)).cell? ⟨b, 7, none⟩ = some (.int .u8 (X 7)) := (Kept.alloc w _).cell (hc 7 (by decide)) (fun h => h)
  obtain ⟨h7, g7⟩ := hX 7 (by decide)
  have hv : beV X 8 = X 7 + X 6 * 256 + X 5 * 65536 + X 4 * 16777216 + X 3 * 4294967296 + X 2 * 1099511627776 + X 1 * 281474976710656 + X 0 * 72057594037927936 := by
    have e : beV X 8 = (((((((((0 : Int) * 256 + X 0) * 256 + X 1) * 256 + X 2) * 256 + X 3) * 256 + X 4) * 256 + X 5) * 256 + X 6) * 256 + X 7) := rfl
    omega
  have HV : Hid (beV X 8 = X 7 + X 6 * 256 + X 5 * 65536 + X 4 * 16777216 + X 3 * 4294967296 + X 2 * 1099511627776 + X 1 * 281474976710656 + X 0 * 72057594037927936) := hv
  clear hX hc hv
  go_enter Try.func62, Try.ntmps62
  go_wp2
  go_quiet (fail)
  go_wp2
  go_ret
  refine ⟨?_, ((Below.refl _ w).alloc (Nat.le_refl _) _).trans ⟨rfl, rfl, rfl, Nat.le_refl _, fun _ _ => rfl⟩⟩
  rw [HV.out]
  simp (disch := omega) only [u64_or8, u64_or16, u64_or24, u64_or32, u64_or40, u64_or48, u64_or56]
  rfl

end Go.Proofs.Qxb6604716a
