/-
  THE WALK OF 'FnIntegerOfReadsWireNumber': one theorem a width, byte order and sign.
-/
import Derived.Test.Qxb6604716aIntPlain
namespace Go.Proofs.Qxb6604716a
open Go.RowKit
set_option linter.unusedVariables false

set_option maxHeartbeats 4000000 in
set_option maxRecDepth 100000 in
theorem int_1_false_false (b off c : Nat) (X : Nat → Int) (w : World) (hX : ∀ i, i < 1 → 0 ≤ X i ∧ X i ≤ 255) (hr : ∀ i, i < 1 → w.cell? ⟨b, off + i, none⟩ = some (.int .u8 (X i))) :
    Calls Try.prog 3 #[.slice (some ⟨b, off, none⟩) 1 c, .bool false, .bool false] w fun e w' => e = .returned (.bool true) ∧ Below w.heap.size w w' := by
  have HR : Hid (∀ i, i < 1 → w.cell? ⟨b, off + i, none⟩ = some (.int .u8 (X i))) := hr
  have HX : Hid (∀ i, i < 1 → 0 ≤ X i ∧ X i ≤ 255) := hX
  clear hr hX
  go_enter Try.func3, Try.ntmps3
  go_wp2_with fail
  refine (bytes6 _ _ _ _ _ _ (by decide)).mono ?_
  rintro e w' ⟨rfl, hw⟩
  subst w'
  go_wp2_with fail
  refine (clone7 b off 1 c X w (by decide) (by decide) HR.out).mono ?_
  rintro e w1 ⟨rfl, hrow1, hsz1, hk1⟩
  have R1 : Hid (∀ i, i < 1 → w1.cell? ⟨w.heap.size, i, none⟩ = some (.int .u8 (X i))) := fun i hi => hrow1.cell hi
  have B1 : Hid (Below w.heap.size w w1) := hk1.below (Nat.le_refl _) (fun k h => h.elim)
  clear hrow1 hk1 HR
  go_wp2_with fail
  refine (newNum8 _ _ _ _).mono ?_
  rintro e w2 ⟨rfl, k0, k1, k2, hb2⟩
  rw [hsz1] at k0 k1 k2
  have R2 : Hid (∀ i, i < 1 → w2.cell? ⟨w.heap.size, i, none⟩ = some (.int .u8 (X i))) := fun i hi => cell_later hb2 (R1.out i hi)
  have B2 : Hid (Below w.heap.size w w2) := B1.out.trans (hb2.mono B1.out.size)
  have Z2 : Hid (w.heap.size + 1 < w2.heap.size) := World.block_lt_of_cell? _ _ k0
  clear hb2 R1 B1
  go_wp2_with fail
  refine (zzNumberBits11 1 (w.heap.size + 1) w.heap.size X false false w2 (by decide) HX.out R2.out k0 k1 k2).mono ?_
  rintro e w3 ⟨rfl, hb3⟩
  generalize hbt : sext false 1 (val X 1 false) = bts
  have HBT : Hid (sext false 1 (val X 1 false) = bts) := hbt
  have k03 := cell_later hb3 k0
  have R3 : Hid (∀ i, i < 1 → w3.cell? ⟨w.heap.size, i, none⟩ = some (.int .u8 (X i))) := fun i hi => cell_later hb3 (R2.out i hi)
  have B3 : Hid (Below w.heap.size w w3) := B2.out.trans (hb3.mono B2.out.size)
  clear hb3 hbt R2 B2 k0 k1 k2 Z2
  go_wp2_with fail
  refine (newVal10 _ _ _).mono ?_
  rintro e w4 ⟨rfl, hb4⟩
  have k04 := cell_later hb4 k03
  have R4 : Hid (∀ i, i < 1 → w4.cell? ⟨w.heap.size, i, none⟩ = some (.int .u8 (X i))) := fun i hi => cell_later hb4 (R3.out i hi)
  have B4 : Hid (Below w.heap.size w w4) := B3.out.trans (hb4.mono B3.out.size)
  clear hb4 k03 R3 B3
  go_wp2_with fail
  refine (integerOf9 (w.heap.size + 1) false bts w4 k04).mono ?_
  rintro e w5 ⟨rfl, hb5⟩
  generalize hng : neg false bts = ng
  have HNG : Hid (neg false bts = ng) := hng
  have R5 : Hid (∀ i, i < 1 → w5.cell? ⟨w.heap.size, i, none⟩ = some (.int .u8 (X i))) := fun i hi => cell_later hb5 (R4.out i hi)
  have B5 : Hid (Below w.heap.size w w5) := B4.out.trans (hb5.mono B4.out.size)
  clear hb5 k04 R4 B4 hng hsz1
  go_wp2
  have g0 : (w5.alloc (Obj.cells #[Value.int IntKind.u64 bts, Value.bool ng] 29)).cell? ⟨w5.heap.size, 0, none⟩ = some (.int .u64 bts) := by simp
  have g1 : (w5.alloc (Obj.cells #[Value.int IntKind.u64 bts, Value.bool ng] 29)).cell? ⟨w5.heap.size, 1, none⟩ = some (.bool ng) := by simp
  have hr6 : ∀ i, i < 1 → (w5.alloc (Obj.cells #[Value.int IntKind.u64 bts, Value.bool ng] 29)).cell? ⟨w.heap.size, i, none⟩ = some (.int .u8 (X i)) := fun i hi => cell_later ((Below.refl _ _).alloc (Nat.le_refl _) _) (R5.out i hi)
  have hb6 : Below w.heap.size w (w5.alloc (Obj.cells #[Value.int IntKind.u64 bts, Value.bool ng] 29)) := B5.out.trans (((Below.refl _ _).alloc (Nat.le_refl _) _).mono B5.out.size)
  generalize w5.alloc (Obj.cells #[Value.int IntKind.u64 bts, Value.bool ng] 29) = w6 at g0 g1 hr6 hb6 ⊢
  generalize w5.heap.size = GB at g0 g1 ⊢
  have R6 : Hid (∀ i, i < 1 → w6.cell? ⟨w.heap.size, i, none⟩ = some (.int .u8 (X i))) := hr6
  have B6 : Hid (Below w.heap.size w w6) := hb6
  have htop := top_1_false X HX.out
  have hvb := val_bound false HX.out
  have t0 : w6.cell? ⟨w.heap.size, 0, none⟩ = some (.int .u8 (X 0)) := hr6 0 (by decide)
  have tn : w6.cell? ⟨w.heap.size, 0, none⟩ = some (.int .u8 (X 0)) := hr6 0 (by decide)
  generalize hV : val X 1 false = V at HBT htop hvb
  simp only [Int.reducePow] at hvb
  obtain ⟨hv0, hv1⟩ := hvb
  have HVB : Hid (leV X 1 1 = V) := hV
  clear hV hr6 hb6 R5 B5
  obtain rfl : bts = V := HBT.out.symm
  obtain rfl : ng = false := HNG.out.symm
  clear HBT HNG htop
  go_loop [11, 13] (fun u i => ∃ j : Nat, j ≤ 1 ∧ i = .int .i64 (0 - (j : Int)) ∧ u = .int .u64 (leV X 1 j)) (fun _ i => (intOf i + 1).toNat)
  case atStart => exact ⟨0, by decide, rfl, rfl⟩
  case round =>
    obtain ⟨j, hj, rfl, rfl⟩ := hrel
    by_cases hlt : j < 1
    · have c0 : w6.cell? ⟨w.heap.size, 1 - 1 - j, none⟩ = some (.int .u8 (X (1 - 1 - j))) := R6.out _ (by omega)
      obtain ⟨s0, s1, s2, s3⟩ := leV_step (by decide) hlt HX.out
      obtain ⟨m, hm⟩ : ∃ m, m = 1 - 1 - j := ⟨_, rfl⟩
      rw [← hm] at c0 s1 s2 s3
      have HM : Hid (m = 1 - 1 - j) := hm
      have em : (0 : Int) - (j : Int) = (m : Int) := by omega
      have i1 : (m : Int) < 1 := by omega
      clear hm
      rw [em]
      clear em
      go_wp2
      go_round
      case rel => exact ⟨j + 1, by omega, by have := HM.out; go_num, by rw [HM.out]; rfl⟩
      case measure => simp [intOf]
    · obtain rfl : j = 1 := by omega
      rw [HVB.out]
      go_wp2_with fail
      refine (intBits12 _ _ _).mono ?_
      rintro e w7 ⟨rfl, hb7⟩
      have k0 := cell_later hb7 g0
      have k1 := cell_later hb7 g1
      have B7 : Hid (Below w.heap.size w w7) := B6.out.trans (hb7.mono B6.out.size)
      clear hb7 g0 g1
      go_wp2_with fail
      refine (intNeg13 _ _ _).mono ?_
      rintro e w8 ⟨rfl, hb8⟩
      have B8 : Hid (Below w.heap.size w w8) := B7.out.trans (hb8.mono B7.out.size)
      clear hb8
      go_wp2
      go_ret
      exact ⟨rfl, B8.out⟩

set_option maxHeartbeats 4000000 in
set_option maxRecDepth 100000 in
theorem int_1_false_true (b off c : Nat) (X : Nat → Int) (w : World) (hX : ∀ i, i < 1 → 0 ≤ X i ∧ X i ≤ 255) (hr : ∀ i, i < 1 → w.cell? ⟨b, off + i, none⟩ = some (.int .u8 (X i))) :
    Calls Try.prog 3 #[.slice (some ⟨b, off, none⟩) 1 c, .bool false, .bool true] w fun e w' => e = .returned (.bool true) ∧ Below w.heap.size w w' := by
  have HR : Hid (∀ i, i < 1 → w.cell? ⟨b, off + i, none⟩ = some (.int .u8 (X i))) := hr
  have HX : Hid (∀ i, i < 1 → 0 ≤ X i ∧ X i ≤ 255) := hX
  clear hr hX
  go_enter Try.func3, Try.ntmps3
  go_wp2_with fail
  refine (bytes6 _ _ _ _ _ _ (by decide)).mono ?_
  rintro e w' ⟨rfl, hw⟩
  subst w'
  go_wp2_with fail
  refine (clone7 b off 1 c X w (by decide) (by decide) HR.out).mono ?_
  rintro e w1 ⟨rfl, hrow1, hsz1, hk1⟩
  have R1 : Hid (∀ i, i < 1 → w1.cell? ⟨w.heap.size, i, none⟩ = some (.int .u8 (X i))) := fun i hi => hrow1.cell hi
  have B1 : Hid (Below w.heap.size w w1) := hk1.below (Nat.le_refl _) (fun k h => h.elim)
  clear hrow1 hk1 HR
  go_wp2_with fail
  refine (newNum8 _ _ _ _).mono ?_
  rintro e w2 ⟨rfl, k0, k1, k2, hb2⟩
  rw [hsz1] at k0 k1 k2
  have R2 : Hid (∀ i, i < 1 → w2.cell? ⟨w.heap.size, i, none⟩ = some (.int .u8 (X i))) := fun i hi => cell_later hb2 (R1.out i hi)
  have B2 : Hid (Below w.heap.size w w2) := B1.out.trans (hb2.mono B1.out.size)
  have Z2 : Hid (w.heap.size + 1 < w2.heap.size) := World.block_lt_of_cell? _ _ k0
  clear hb2 R1 B1
  go_wp2_with fail
  refine (zzNumberBits11 1 (w.heap.size + 1) w.heap.size X false true w2 (by decide) HX.out R2.out k0 k1 k2).mono ?_
  rintro e w3 ⟨rfl, hb3⟩
  generalize hbt : sext true 1 (val X 1 false) = bts
  have HBT : Hid (sext true 1 (val X 1 false) = bts) := hbt
  have k03 := cell_later hb3 k0
  have R3 : Hid (∀ i, i < 1 → w3.cell? ⟨w.heap.size, i, none⟩ = some (.int .u8 (X i))) := fun i hi => cell_later hb3 (R2.out i hi)
  have B3 : Hid (Below w.heap.size w w3) := B2.out.trans (hb3.mono B2.out.size)
  clear hb3 hbt R2 B2 k0 k1 k2 Z2
  go_wp2_with fail
  refine (newVal10 _ _ _).mono ?_
  rintro e w4 ⟨rfl, hb4⟩
  have k04 := cell_later hb4 k03
  have R4 : Hid (∀ i, i < 1 → w4.cell? ⟨w.heap.size, i, none⟩ = some (.int .u8 (X i))) := fun i hi => cell_later hb4 (R3.out i hi)
  have B4 : Hid (Below w.heap.size w w4) := B3.out.trans (hb4.mono B3.out.size)
  clear hb4 k03 R3 B3
  go_wp2_with fail
  refine (integerOf9 (w.heap.size + 1) true bts w4 k04).mono ?_
  rintro e w5 ⟨rfl, hb5⟩
  generalize hng : neg true bts = ng
  have HNG : Hid (neg true bts = ng) := hng
  have R5 : Hid (∀ i, i < 1 → w5.cell? ⟨w.heap.size, i, none⟩ = some (.int .u8 (X i))) := fun i hi => cell_later hb5 (R4.out i hi)
  have B5 : Hid (Below w.heap.size w w5) := B4.out.trans (hb5.mono B4.out.size)
  clear hb5 k04 R4 B4 hng hsz1
  go_wp2
  have g0 : (w5.alloc (Obj.cells #[Value.int IntKind.u64 bts, Value.bool ng] 29)).cell? ⟨w5.heap.size, 0, none⟩ = some (.int .u64 bts) := by simp
  have g1 : (w5.alloc (Obj.cells #[Value.int IntKind.u64 bts, Value.bool ng] 29)).cell? ⟨w5.heap.size, 1, none⟩ = some (.bool ng) := by simp
  have hr6 : ∀ i, i < 1 → (w5.alloc (Obj.cells #[Value.int IntKind.u64 bts, Value.bool ng] 29)).cell? ⟨w.heap.size, i, none⟩ = some (.int .u8 (X i)) := fun i hi => cell_later ((Below.refl _ _).alloc (Nat.le_refl _) _) (R5.out i hi)
  have hb6 : Below w.heap.size w (w5.alloc (Obj.cells #[Value.int IntKind.u64 bts, Value.bool ng] 29)) := B5.out.trans (((Below.refl _ _).alloc (Nat.le_refl _) _).mono B5.out.size)
  generalize w5.alloc (Obj.cells #[Value.int IntKind.u64 bts, Value.bool ng] 29) = w6 at g0 g1 hr6 hb6 ⊢
  generalize w5.heap.size = GB at g0 g1 ⊢
  have R6 : Hid (∀ i, i < 1 → w6.cell? ⟨w.heap.size, i, none⟩ = some (.int .u8 (X i))) := hr6
  have B6 : Hid (Below w.heap.size w w6) := hb6
  have htop := top_1_false X HX.out
  have hvb := val_bound false HX.out
  have t0 : w6.cell? ⟨w.heap.size, 0, none⟩ = some (.int .u8 (X 0)) := hr6 0 (by decide)
  have tn : w6.cell? ⟨w.heap.size, 0, none⟩ = some (.int .u8 (X 0)) := hr6 0 (by decide)
  generalize hV : val X 1 false = V at HBT htop hvb
  simp only [Int.reducePow] at hvb
  obtain ⟨hv0, hv1⟩ := hvb
  have HVB : Hid (leV X 1 1 = V) := hV
  clear hV hr6 hb6 R5 B5
  by_cases hneg : 128 ≤ X 0
  · have hge := htop.1 hneg
    have ebt : bts = V + 18446744073709551360 := by rw [← HBT.out]; exact sext_hi_1 V hge hv1
    obtain rfl : ng = true := by rw [← HNG.out]; exact neg_hi (by rw [ebt]; omega) (by rw [ebt]; omega)
    obtain ⟨f2, ef2⟩ : ∃ f, f = V + 65280 := ⟨_, rfl⟩
    have q1 : bits .or .u64 V 65280 = f2 := by rw [ef2]; exact fill_1_1 V hv0 hv1
    obtain ⟨f3, ef3⟩ : ∃ f, f = V + 16776960 := ⟨_, rfl⟩
    have q2 : bits .or .u64 f2 16711680 = f3 := by rw [ef2, ef3]; exact fill_1_2 V hv0 hv1
    obtain ⟨f4, ef4⟩ : ∃ f, f = V + 4294967040 := ⟨_, rfl⟩
    have q3 : bits .or .u64 f3 4278190080 = f4 := by rw [ef3, ef4]; exact fill_1_3 V hv0 hv1
    obtain ⟨f5, ef5⟩ : ∃ f, f = V + 1099511627520 := ⟨_, rfl⟩
    have q4 : bits .or .u64 f4 1095216660480 = f5 := by rw [ef4, ef5]; exact fill_1_4 V hv0 hv1
    obtain ⟨f6, ef6⟩ : ∃ f, f = V + 281474976710400 := ⟨_, rfl⟩
    have q5 : bits .or .u64 f5 280375465082880 = f6 := by rw [ef5, ef6]; exact fill_1_5 V hv0 hv1
    obtain ⟨f7, ef7⟩ : ∃ f, f = V + 72057594037927680 := ⟨_, rfl⟩
    have q6 : bits .or .u64 f6 71776119061217280 = f7 := by rw [ef6, ef7]; exact fill_1_6 V hv0 hv1
    have q7 : bits .or .u64 f7 18374686479671623680 = bts := by rw [ef7, ebt]; exact fill_1_7 V hv0 hv1
    clear ef2 ef3 ef4 ef5 ef6 ef7 ebt hge HBT HNG htop
    go_loop [11, 13] (fun u i => ∃ j : Nat, j ≤ 1 ∧ i = .int .i64 (0 - (j : Int)) ∧ u = .int .u64 (leV X 1 j)) (fun _ i => (intOf i + 1).toNat)
    case atStart => exact ⟨0, by decide, rfl, rfl⟩
    case round =>
      obtain ⟨j, hj, rfl, rfl⟩ := hrel
      by_cases hlt : j < 1
      · have c0 : w6.cell? ⟨w.heap.size, 1 - 1 - j, none⟩ = some (.int .u8 (X (1 - 1 - j))) := R6.out _ (by omega)
        obtain ⟨s0, s1, s2, s3⟩ := leV_step (by decide) hlt HX.out
        obtain ⟨m, hm⟩ : ∃ m, m = 1 - 1 - j := ⟨_, rfl⟩
        rw [← hm] at c0 s1 s2 s3
        have HM : Hid (m = 1 - 1 - j) := hm
        have em : (0 : Int) - (j : Int) = (m : Int) := by omega
        have i1 : (m : Int) < 1 := by omega
        clear hm
        rw [em]
        clear em
        go_wp2
        go_round
        case rel => exact ⟨j + 1, by omega, by have := HM.out; go_num, by rw [HM.out]; rfl⟩
        case measure => simp [intOf]
      · obtain rfl : j = 1 := by omega
        rw [HVB.out]
        go_wp2
        refine wp_loop_rounds 8 ?_
        rw [rounds_succ]
        go_wp2_with fail
        rw [rounds_succ]
        go_wp2_with fail
        rw [rounds_succ]
        go_wp2_with fail
        rw [rounds_succ]
        go_wp2_with fail
        rw [rounds_succ]
        go_wp2_with fail
        rw [rounds_succ]
        go_wp2_with fail
        rw [rounds_succ]
        go_wp2_with fail
        rw [rounds_succ]
        go_wp2_with fail
        refine (intBits12 _ _ _).mono ?_
        rintro e w7 ⟨rfl, hb7⟩
        have k0 := cell_later hb7 g0
        have k1 := cell_later hb7 g1
        have B7 : Hid (Below w.heap.size w w7) := B6.out.trans (hb7.mono B6.out.size)
        clear hb7 g0 g1
        go_wp2_with fail
        refine (intNeg13 _ _ _).mono ?_
        rintro e w8 ⟨rfl, hb8⟩
        have B8 : Hid (Below w.heap.size w w8) := B7.out.trans (hb8.mono B7.out.size)
        clear hb8
        go_wp2
        go_ret
        exact ⟨rfl, B8.out⟩
  · have hlt : V < 128 := by omega
    obtain rfl : bts = V := by rw [← HBT.out]; exact sext_lo_1 V hv0 hlt
    obtain rfl : ng = false := by rw [← HNG.out]; exact neg_lo hv0 (by omega)
    have hneg' : X 0 < 128 := by omega
    have hdec : decide (128 ≤ X 0) = false := decide_eq_false (by omega)
    clear hneg htop HBT HNG hlt
    go_loop [11, 13] (fun u i => ∃ j : Nat, j ≤ 1 ∧ i = .int .i64 (0 - (j : Int)) ∧ u = .int .u64 (leV X 1 j)) (fun _ i => (intOf i + 1).toNat)
    case atStart => exact ⟨0, by decide, rfl, rfl⟩
    case round =>
      obtain ⟨j, hj, rfl, rfl⟩ := hrel
      by_cases hlt : j < 1
      · have c0 : w6.cell? ⟨w.heap.size, 1 - 1 - j, none⟩ = some (.int .u8 (X (1 - 1 - j))) := R6.out _ (by omega)
        obtain ⟨s0, s1, s2, s3⟩ := leV_step (by decide) hlt HX.out
        obtain ⟨m, hm⟩ : ∃ m, m = 1 - 1 - j := ⟨_, rfl⟩
        rw [← hm] at c0 s1 s2 s3
        have HM : Hid (m = 1 - 1 - j) := hm
        have em : (0 : Int) - (j : Int) = (m : Int) := by omega
        have i1 : (m : Int) < 1 := by omega
        clear hm
        rw [em]
        clear em
        go_wp2
        go_round
        case rel => exact ⟨j + 1, by omega, by have := HM.out; go_num, by rw [HM.out]; rfl⟩
        case measure => simp [intOf]
      · obtain rfl : j = 1 := by omega
        rw [HVB.out]
        go_wp2_with fail
        refine (intBits12 _ _ _).mono ?_
        rintro e w7 ⟨rfl, hb7⟩
        have k0 := cell_later hb7 g0
        have k1 := cell_later hb7 g1
        have B7 : Hid (Below w.heap.size w w7) := B6.out.trans (hb7.mono B6.out.size)
        clear hb7 g0 g1
        go_wp2_with fail
        refine (intNeg13 _ _ _).mono ?_
        rintro e w8 ⟨rfl, hb8⟩
        have B8 : Hid (Below w.heap.size w w8) := B7.out.trans (hb8.mono B7.out.size)
        clear hb8
        go_wp2
        go_ret
        exact ⟨rfl, B8.out⟩

set_option maxHeartbeats 4000000 in
set_option maxRecDepth 100000 in
theorem int_1_true_false (b off c : Nat) (X : Nat → Int) (w : World) (hX : ∀ i, i < 1 → 0 ≤ X i ∧ X i ≤ 255) (hr : ∀ i, i < 1 → w.cell? ⟨b, off + i, none⟩ = some (.int .u8 (X i))) :
    Calls Try.prog 3 #[.slice (some ⟨b, off, none⟩) 1 c, .bool true, .bool false] w fun e w' => e = .returned (.bool true) ∧ Below w.heap.size w w' := by
  have HR : Hid (∀ i, i < 1 → w.cell? ⟨b, off + i, none⟩ = some (.int .u8 (X i))) := hr
  have HX : Hid (∀ i, i < 1 → 0 ≤ X i ∧ X i ≤ 255) := hX
  clear hr hX
  go_enter Try.func3, Try.ntmps3
  go_wp2_with fail
  refine (bytes6 _ _ _ _ _ _ (by decide)).mono ?_
  rintro e w' ⟨rfl, hw⟩
  subst w'
  go_wp2_with fail
  refine (clone7 b off 1 c X w (by decide) (by decide) HR.out).mono ?_
  rintro e w1 ⟨rfl, hrow1, hsz1, hk1⟩
  have R1 : Hid (∀ i, i < 1 → w1.cell? ⟨w.heap.size, i, none⟩ = some (.int .u8 (X i))) := fun i hi => hrow1.cell hi
  have B1 : Hid (Below w.heap.size w w1) := hk1.below (Nat.le_refl _) (fun k h => h.elim)
  clear hrow1 hk1 HR
  go_wp2_with fail
  refine (newNum8 _ _ _ _).mono ?_
  rintro e w2 ⟨rfl, k0, k1, k2, hb2⟩
  rw [hsz1] at k0 k1 k2
  have R2 : Hid (∀ i, i < 1 → w2.cell? ⟨w.heap.size, i, none⟩ = some (.int .u8 (X i))) := fun i hi => cell_later hb2 (R1.out i hi)
  have B2 : Hid (Below w.heap.size w w2) := B1.out.trans (hb2.mono B1.out.size)
  have Z2 : Hid (w.heap.size + 1 < w2.heap.size) := World.block_lt_of_cell? _ _ k0
  clear hb2 R1 B1
  go_wp2_with fail
  refine (zzNumberBits11 1 (w.heap.size + 1) w.heap.size X true false w2 (by decide) HX.out R2.out k0 k1 k2).mono ?_
  rintro e w3 ⟨rfl, hb3⟩
  generalize hbt : sext false 1 (val X 1 true) = bts
  have HBT : Hid (sext false 1 (val X 1 true) = bts) := hbt
  have k03 := cell_later hb3 k0
  have R3 : Hid (∀ i, i < 1 → w3.cell? ⟨w.heap.size, i, none⟩ = some (.int .u8 (X i))) := fun i hi => cell_later hb3 (R2.out i hi)
  have B3 : Hid (Below w.heap.size w w3) := B2.out.trans (hb3.mono B2.out.size)
  clear hb3 hbt R2 B2 k0 k1 k2 Z2
  go_wp2_with fail
  refine (newVal10 _ _ _).mono ?_
  rintro e w4 ⟨rfl, hb4⟩
  have k04 := cell_later hb4 k03
  have R4 : Hid (∀ i, i < 1 → w4.cell? ⟨w.heap.size, i, none⟩ = some (.int .u8 (X i))) := fun i hi => cell_later hb4 (R3.out i hi)
  have B4 : Hid (Below w.heap.size w w4) := B3.out.trans (hb4.mono B3.out.size)
  clear hb4 k03 R3 B3
  go_wp2_with fail
  refine (integerOf9 (w.heap.size + 1) false bts w4 k04).mono ?_
  rintro e w5 ⟨rfl, hb5⟩
  generalize hng : neg false bts = ng
  have HNG : Hid (neg false bts = ng) := hng
  have R5 : Hid (∀ i, i < 1 → w5.cell? ⟨w.heap.size, i, none⟩ = some (.int .u8 (X i))) := fun i hi => cell_later hb5 (R4.out i hi)
  have B5 : Hid (Below w.heap.size w w5) := B4.out.trans (hb5.mono B4.out.size)
  clear hb5 k04 R4 B4 hng hsz1
  go_wp2
  have g0 : (w5.alloc (Obj.cells #[Value.int IntKind.u64 bts, Value.bool ng] 29)).cell? ⟨w5.heap.size, 0, none⟩ = some (.int .u64 bts) := by simp
  have g1 : (w5.alloc (Obj.cells #[Value.int IntKind.u64 bts, Value.bool ng] 29)).cell? ⟨w5.heap.size, 1, none⟩ = some (.bool ng) := by simp
  have hr6 : ∀ i, i < 1 → (w5.alloc (Obj.cells #[Value.int IntKind.u64 bts, Value.bool ng] 29)).cell? ⟨w.heap.size, i, none⟩ = some (.int .u8 (X i)) := fun i hi => cell_later ((Below.refl _ _).alloc (Nat.le_refl _) _) (R5.out i hi)
  have hb6 : Below w.heap.size w (w5.alloc (Obj.cells #[Value.int IntKind.u64 bts, Value.bool ng] 29)) := B5.out.trans (((Below.refl _ _).alloc (Nat.le_refl _) _).mono B5.out.size)
  generalize w5.alloc (Obj.cells #[Value.int IntKind.u64 bts, Value.bool ng] 29) = w6 at g0 g1 hr6 hb6 ⊢
  generalize w5.heap.size = GB at g0 g1 ⊢
  have R6 : Hid (∀ i, i < 1 → w6.cell? ⟨w.heap.size, i, none⟩ = some (.int .u8 (X i))) := hr6
  have B6 : Hid (Below w.heap.size w w6) := hb6
  have htop := top_1_true X HX.out
  have hvb := val_bound true HX.out
  have t0 : w6.cell? ⟨w.heap.size, 0, none⟩ = some (.int .u8 (X 0)) := hr6 0 (by decide)
  have tn : w6.cell? ⟨w.heap.size, 0, none⟩ = some (.int .u8 (X 0)) := hr6 0 (by decide)
  generalize hV : val X 1 true = V at HBT htop hvb
  simp only [Int.reducePow] at hvb
  obtain ⟨hv0, hv1⟩ := hvb
  have HVB : Hid (beV X 1 = V) := hV
  clear hV hr6 hb6 R5 B5
  obtain rfl : bts = V := HBT.out.symm
  obtain rfl : ng = false := HNG.out.symm
  clear HBT HNG htop
  go_loop [11, 12] (fun u i => ∃ j : Nat, j ≤ 1 ∧ i = .int .i64 j ∧ u = .int .u64 (beV X j)) (fun _ i => 1 - (intOf i).toNat)
  case atStart => exact ⟨0, by decide, rfl, rfl⟩
  case round =>
    obtain ⟨j, hj, rfl, rfl⟩ := hrel
    by_cases hlt : j < 1
    · have c0 : w6.cell? ⟨w.heap.size, j, none⟩ = some (.int .u8 (X j)) := R6.out j hlt
      obtain ⟨s0, s1, s2, s3⟩ := beV_step (by decide) hlt HX.out
      have i1 : (j : Int) < 1 := by omega
      go_wp2
      go_round
      case rel => exact ⟨j + 1, by omega, by go_num, rfl⟩
      case measure => simp [intOf]; omega
    · obtain rfl : j = 1 := by omega
      rw [HVB.out]
      go_wp2_with fail
      refine (intBits12 _ _ _).mono ?_
      rintro e w7 ⟨rfl, hb7⟩
      have k0 := cell_later hb7 g0
      have k1 := cell_later hb7 g1
      have B7 : Hid (Below w.heap.size w w7) := B6.out.trans (hb7.mono B6.out.size)
      clear hb7 g0 g1
      go_wp2_with fail
      refine (intNeg13 _ _ _).mono ?_
      rintro e w8 ⟨rfl, hb8⟩
      have B8 : Hid (Below w.heap.size w w8) := B7.out.trans (hb8.mono B7.out.size)
      clear hb8
      go_wp2
      go_ret
      exact ⟨rfl, B8.out⟩

set_option maxHeartbeats 4000000 in
set_option maxRecDepth 100000 in
theorem int_1_true_true (b off c : Nat) (X : Nat → Int) (w : World) (hX : ∀ i, i < 1 → 0 ≤ X i ∧ X i ≤ 255) (hr : ∀ i, i < 1 → w.cell? ⟨b, off + i, none⟩ = some (.int .u8 (X i))) :
    Calls Try.prog 3 #[.slice (some ⟨b, off, none⟩) 1 c, .bool true, .bool true] w fun e w' => e = .returned (.bool true) ∧ Below w.heap.size w w' := by
  have HR : Hid (∀ i, i < 1 → w.cell? ⟨b, off + i, none⟩ = some (.int .u8 (X i))) := hr
  have HX : Hid (∀ i, i < 1 → 0 ≤ X i ∧ X i ≤ 255) := hX
  clear hr hX
  go_enter Try.func3, Try.ntmps3
  go_wp2_with fail
  refine (bytes6 _ _ _ _ _ _ (by decide)).mono ?_
  rintro e w' ⟨rfl, hw⟩
  subst w'
  go_wp2_with fail
  refine (clone7 b off 1 c X w (by decide) (by decide) HR.out).mono ?_
  rintro e w1 ⟨rfl, hrow1, hsz1, hk1⟩
  have R1 : Hid (∀ i, i < 1 → w1.cell? ⟨w.heap.size, i, none⟩ = some (.int .u8 (X i))) := fun i hi => hrow1.cell hi
  have B1 : Hid (Below w.heap.size w w1) := hk1.below (Nat.le_refl _) (fun k h => h.elim)
  clear hrow1 hk1 HR
  go_wp2_with fail
  refine (newNum8 _ _ _ _).mono ?_
  rintro e w2 ⟨rfl, k0, k1, k2, hb2⟩
  rw [hsz1] at k0 k1 k2
  have R2 : Hid (∀ i, i < 1 → w2.cell? ⟨w.heap.size, i, none⟩ = some (.int .u8 (X i))) := fun i hi => cell_later hb2 (R1.out i hi)
  have B2 : Hid (Below w.heap.size w w2) := B1.out.trans (hb2.mono B1.out.size)
  have Z2 : Hid (w.heap.size + 1 < w2.heap.size) := World.block_lt_of_cell? _ _ k0
  clear hb2 R1 B1
  go_wp2_with fail
  refine (zzNumberBits11 1 (w.heap.size + 1) w.heap.size X true true w2 (by decide) HX.out R2.out k0 k1 k2).mono ?_
  rintro e w3 ⟨rfl, hb3⟩
  generalize hbt : sext true 1 (val X 1 true) = bts
  have HBT : Hid (sext true 1 (val X 1 true) = bts) := hbt
  have k03 := cell_later hb3 k0
  have R3 : Hid (∀ i, i < 1 → w3.cell? ⟨w.heap.size, i, none⟩ = some (.int .u8 (X i))) := fun i hi => cell_later hb3 (R2.out i hi)
  have B3 : Hid (Below w.heap.size w w3) := B2.out.trans (hb3.mono B2.out.size)
  clear hb3 hbt R2 B2 k0 k1 k2 Z2
  go_wp2_with fail
  refine (newVal10 _ _ _).mono ?_
  rintro e w4 ⟨rfl, hb4⟩
  have k04 := cell_later hb4 k03
  have R4 : Hid (∀ i, i < 1 → w4.cell? ⟨w.heap.size, i, none⟩ = some (.int .u8 (X i))) := fun i hi => cell_later hb4 (R3.out i hi)
  have B4 : Hid (Below w.heap.size w w4) := B3.out.trans (hb4.mono B3.out.size)
  clear hb4 k03 R3 B3
  go_wp2_with fail
  refine (integerOf9 (w.heap.size + 1) true bts w4 k04).mono ?_
  rintro e w5 ⟨rfl, hb5⟩
  generalize hng : neg true bts = ng
  have HNG : Hid (neg true bts = ng) := hng
  have R5 : Hid (∀ i, i < 1 → w5.cell? ⟨w.heap.size, i, none⟩ = some (.int .u8 (X i))) := fun i hi => cell_later hb5 (R4.out i hi)
  have B5 : Hid (Below w.heap.size w w5) := B4.out.trans (hb5.mono B4.out.size)
  clear hb5 k04 R4 B4 hng hsz1
  go_wp2
  have g0 : (w5.alloc (Obj.cells #[Value.int IntKind.u64 bts, Value.bool ng] 29)).cell? ⟨w5.heap.size, 0, none⟩ = some (.int .u64 bts) := by simp
  have g1 : (w5.alloc (Obj.cells #[Value.int IntKind.u64 bts, Value.bool ng] 29)).cell? ⟨w5.heap.size, 1, none⟩ = some (.bool ng) := by simp
  have hr6 : ∀ i, i < 1 → (w5.alloc (Obj.cells #[Value.int IntKind.u64 bts, Value.bool ng] 29)).cell? ⟨w.heap.size, i, none⟩ = some (.int .u8 (X i)) := fun i hi => cell_later ((Below.refl _ _).alloc (Nat.le_refl _) _) (R5.out i hi)
  have hb6 : Below w.heap.size w (w5.alloc (Obj.cells #[Value.int IntKind.u64 bts, Value.bool ng] 29)) := B5.out.trans (((Below.refl _ _).alloc (Nat.le_refl _) _).mono B5.out.size)
  generalize w5.alloc (Obj.cells #[Value.int IntKind.u64 bts, Value.bool ng] 29) = w6 at g0 g1 hr6 hb6 ⊢
  generalize w5.heap.size = GB at g0 g1 ⊢
  have R6 : Hid (∀ i, i < 1 → w6.cell? ⟨w.heap.size, i, none⟩ = some (.int .u8 (X i))) := hr6
  have B6 : Hid (Below w.heap.size w w6) := hb6
  have htop := top_1_true X HX.out
  have hvb := val_bound true HX.out
  have t0 : w6.cell? ⟨w.heap.size, 0, none⟩ = some (.int .u8 (X 0)) := hr6 0 (by decide)
  have tn : w6.cell? ⟨w.heap.size, 0, none⟩ = some (.int .u8 (X 0)) := hr6 0 (by decide)
  generalize hV : val X 1 true = V at HBT htop hvb
  simp only [Int.reducePow] at hvb
  obtain ⟨hv0, hv1⟩ := hvb
  have HVB : Hid (beV X 1 = V) := hV
  clear hV hr6 hb6 R5 B5
  by_cases hneg : 128 ≤ X 0
  · have hge := htop.1 hneg
    have ebt : bts = V + 18446744073709551360 := by rw [← HBT.out]; exact sext_hi_1 V hge hv1
    obtain rfl : ng = true := by rw [← HNG.out]; exact neg_hi (by rw [ebt]; omega) (by rw [ebt]; omega)
    obtain ⟨f2, ef2⟩ : ∃ f, f = V + 65280 := ⟨_, rfl⟩
    have q1 : bits .or .u64 V 65280 = f2 := by rw [ef2]; exact fill_1_1 V hv0 hv1
    obtain ⟨f3, ef3⟩ : ∃ f, f = V + 16776960 := ⟨_, rfl⟩
    have q2 : bits .or .u64 f2 16711680 = f3 := by rw [ef2, ef3]; exact fill_1_2 V hv0 hv1
    obtain ⟨f4, ef4⟩ : ∃ f, f = V + 4294967040 := ⟨_, rfl⟩
    have q3 : bits .or .u64 f3 4278190080 = f4 := by rw [ef3, ef4]; exact fill_1_3 V hv0 hv1
    obtain ⟨f5, ef5⟩ : ∃ f, f = V + 1099511627520 := ⟨_, rfl⟩
    have q4 : bits .or .u64 f4 1095216660480 = f5 := by rw [ef4, ef5]; exact fill_1_4 V hv0 hv1
    obtain ⟨f6, ef6⟩ : ∃ f, f = V + 281474976710400 := ⟨_, rfl⟩
    have q5 : bits .or .u64 f5 280375465082880 = f6 := by rw [ef5, ef6]; exact fill_1_5 V hv0 hv1
    obtain ⟨f7, ef7⟩ : ∃ f, f = V + 72057594037927680 := ⟨_, rfl⟩
    have q6 : bits .or .u64 f6 71776119061217280 = f7 := by rw [ef6, ef7]; exact fill_1_6 V hv0 hv1
    have q7 : bits .or .u64 f7 18374686479671623680 = bts := by rw [ef7, ebt]; exact fill_1_7 V hv0 hv1
    clear ef2 ef3 ef4 ef5 ef6 ef7 ebt hge HBT HNG htop
    go_loop [11, 12] (fun u i => ∃ j : Nat, j ≤ 1 ∧ i = .int .i64 j ∧ u = .int .u64 (beV X j)) (fun _ i => 1 - (intOf i).toNat)
    case atStart => exact ⟨0, by decide, rfl, rfl⟩
    case round =>
      obtain ⟨j, hj, rfl, rfl⟩ := hrel
      by_cases hlt : j < 1
      · have c0 : w6.cell? ⟨w.heap.size, j, none⟩ = some (.int .u8 (X j)) := R6.out j hlt
        obtain ⟨s0, s1, s2, s3⟩ := beV_step (by decide) hlt HX.out
        have i1 : (j : Int) < 1 := by omega
        go_wp2
        go_round
        case rel => exact ⟨j + 1, by omega, by go_num, rfl⟩
        case measure => simp [intOf]; omega
      · obtain rfl : j = 1 := by omega
        rw [HVB.out]
        go_wp2
        refine wp_loop_rounds 8 ?_
        rw [rounds_succ]
        go_wp2_with fail
        rw [rounds_succ]
        go_wp2_with fail
        rw [rounds_succ]
        go_wp2_with fail
        rw [rounds_succ]
        go_wp2_with fail
        rw [rounds_succ]
        go_wp2_with fail
        rw [rounds_succ]
        go_wp2_with fail
        rw [rounds_succ]
        go_wp2_with fail
        rw [rounds_succ]
        go_wp2_with fail
        refine (intBits12 _ _ _).mono ?_
        rintro e w7 ⟨rfl, hb7⟩
        have k0 := cell_later hb7 g0
        have k1 := cell_later hb7 g1
        have B7 : Hid (Below w.heap.size w w7) := B6.out.trans (hb7.mono B6.out.size)
        clear hb7 g0 g1
        go_wp2_with fail
        refine (intNeg13 _ _ _).mono ?_
        rintro e w8 ⟨rfl, hb8⟩
        have B8 : Hid (Below w.heap.size w w8) := B7.out.trans (hb8.mono B7.out.size)
        clear hb8
        go_wp2
        go_ret
        exact ⟨rfl, B8.out⟩
  · have hlt : V < 128 := by omega
    obtain rfl : bts = V := by rw [← HBT.out]; exact sext_lo_1 V hv0 hlt
    obtain rfl : ng = false := by rw [← HNG.out]; exact neg_lo hv0 (by omega)
    have hneg' : X 0 < 128 := by omega
    have hdec : decide (128 ≤ X 0) = false := decide_eq_false (by omega)
    clear hneg htop HBT HNG hlt
    go_loop [11, 12] (fun u i => ∃ j : Nat, j ≤ 1 ∧ i = .int .i64 j ∧ u = .int .u64 (beV X j)) (fun _ i => 1 - (intOf i).toNat)
    case atStart => exact ⟨0, by decide, rfl, rfl⟩
    case round =>
      obtain ⟨j, hj, rfl, rfl⟩ := hrel
      by_cases hlt : j < 1
      · have c0 : w6.cell? ⟨w.heap.size, j, none⟩ = some (.int .u8 (X j)) := R6.out j hlt
        obtain ⟨s0, s1, s2, s3⟩ := beV_step (by decide) hlt HX.out
        have i1 : (j : Int) < 1 := by omega
        go_wp2
        go_round
        case rel => exact ⟨j + 1, by omega, by go_num, rfl⟩
        case measure => simp [intOf]; omega
      · obtain rfl : j = 1 := by omega
        rw [HVB.out]
        go_wp2_with fail
        refine (intBits12 _ _ _).mono ?_
        rintro e w7 ⟨rfl, hb7⟩
        have k0 := cell_later hb7 g0
        have k1 := cell_later hb7 g1
        have B7 : Hid (Below w.heap.size w w7) := B6.out.trans (hb7.mono B6.out.size)
        clear hb7 g0 g1
        go_wp2_with fail
        refine (intNeg13 _ _ _).mono ?_
        rintro e w8 ⟨rfl, hb8⟩
        have B8 : Hid (Below w.heap.size w w8) := B7.out.trans (hb8.mono B7.out.size)
        clear hb8
        go_wp2
        go_ret
        exact ⟨rfl, B8.out⟩

end Go.Proofs.Qxb6604716a
