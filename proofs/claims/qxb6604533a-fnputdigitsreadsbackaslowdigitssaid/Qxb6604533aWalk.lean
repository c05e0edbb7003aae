/-
  THE WALK OF 'FnPutDigitsReadsBackAsLowDigits', out of its callees' contracts.
-/
import Derived.Test.Qxb6604533aCallees
namespace Go.Proofs.Qxb6604533a
open Go.RowKit

theorem dig_bounds (N L i : Nat) : 48 ≤ dig N L i ∧ dig N L i ≤ 57 := by unfold dig; omega
theorem rd_dig (N L k : Nat) (h : k < L) : ((rd N L (k + 1) : Nat) : Int) = 10 * (rd N L k : Int) + (dig N L k - 48) := by
  rw [rd_succ N L k h]; unfold dig; omega

set_option maxHeartbeats 1000000 in
theorem law_walk (a : Option Addr) (n c : Nat) (V : Nat → Int) (m : Int) (w : World) (hr : BRow w a n V) (hm : m ≤ 9223372036854775807) :
    Calls Try.prog 3 #[.slice a n c, .int .i64 m] w fun e w' => e = .returned (.bool true) ∧ Below w.heap.size w w' := by
  have HR : Hid (BRow w a n V) := hr
  clear hr
  by_cases h1 : n ≤ 1048576
  · by_cases h2 : n ≤ 65536
    · have h3 : ¬ (65536 : Int) < (n : Int) := by omega
      by_cases h4 : m < 0
      · go_enter Try.func3, Try.ntmps3
        go_wp2_with fail
        refine (bytes4 _ _ _ _ _ h1).mono ?_
        rintro e w' ⟨rfl, hw⟩
        subst w'
        go_wp2
        go_ret
        exact ⟨rfl, Below.refl _ _⟩
      · obtain ⟨N, rfl⟩ : ∃ N : Nat, m = (N : Int) := ⟨m.toNat, by omega⟩
        have hN : N ≤ 9223372036854775807 := by omega
        clear hm
        go_enter Try.func3, Try.ntmps3
        go_wp2_with fail
        refine (bytes4 _ _ _ _ _ h1).mono ?_
        rintro e w' ⟨rfl, hw⟩
        subst w'
        go_wp2_with fail
        refine (clone5 _ _ _ V _ h1 HR.out).mono ?_
        rintro e w1 ⟨a', rfl, hr1, hb1⟩
        have HR1 : Hid (ORow w.heap.size w1 a' n V) := hr1
        have HB1 : Hid (Below w.heap.size w w1) := hb1
        clear hr1 hb1
        go_wp2_with fail
        refine (put6 w.heap.size _ _ _ _ V _ h1 hN HR1.out).mono ?_
        rintro e w2 ⟨rfl, hr2, hb2⟩
        have HR2 : Hid (ORow w.heap.size w2 a' n (dig N n)) := hr2
        have HB2 : Hid (Below w.heap.size w w2) := HB1.out.trans hb2
        clear hr2 hb2
        go_wp2
        go_loop [5, 6, 7] (fun s5 s6 s7 => ∃ k : Nat, k ≤ n ∧ s6 = .int .i64 k ∧ s5 = .int .i64 (rd N n k)) (fun _ s6 _ => n - (intOf s6).toNat)
        case atStart => exact ⟨0, Nat.zero_le _, rfl, by rw [rd_zero]; rfl⟩
        case round =>
          obtain ⟨k, hk, rfl, rfl⟩ := hrel
          have hrd := rd_le N n k
          by_cases hlt : k < n
          · obtain ⟨b, hB, rfl, hrow⟩ := HR2.out (by omega)
            have c0 : w2.cell? ⟨b, k, none⟩ = some (.int .u8 (dig N n k)) := hrow.cell hlt
            obtain ⟨hd1, hd2⟩ := dig_bounds N n k
            have hrs := rd_dig N n k hlt
            have hrl := rd_le N n (k + 1)
            have hb : 10 * (rd N n k : Int) + (dig N n k - 48) ≤ 9223372036854775807 := by omega
            have HRS : Hid (((rd N n (k + 1) : Nat) : Int) = 10 * (rd N n k : Int) + (dig N n k - 48)) := hrs
            clear hrs hrl hrow
            go_wp2
            go_round
            case rel => exact ⟨k + 1, by omega, by go_num, by rw [HRS.out]⟩
            case measure => simp [intOf]; omega
          · obtain rfl : k = n := by omega
            go_wp2_with fail
            refine (low7 N k _ h1 hN).mono ?_
            rintro e w3 ⟨rfl, hw⟩
            subst w3
            rw [rd_all]
            go_wp2
            go_ret
            exact ⟨rfl, HB2.out⟩
    · have h3 : (65536 : Int) < (n : Int) := by omega
      go_enter Try.func3, Try.ntmps3
      go_wp2_with fail
      refine (bytes4 _ _ _ _ _ h1).mono ?_
      rintro e w' ⟨rfl, hw⟩
      subst w'
      go_wp2
      go_ret
      exact ⟨rfl, Below.refl _ _⟩
  · go_enter Try.func3, Try.ntmps3
    go_wp2_with fail
    refine (bytes4_no _ _ _ _ _ h1).mono ?_
    rintro e w' ⟨rfl, hw⟩
    subst w'
    go_wp2
    go_ret
    exact ⟨rfl, Below.refl _ _⟩

end Go.Proofs.Qxb6604533a
