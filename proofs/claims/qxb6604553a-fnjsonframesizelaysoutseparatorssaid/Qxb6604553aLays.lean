/-
  THE WALK OF 'FnJSONFrameSizeLaysOutSeparators'.
-/
import Derived.Test.Qxb6604553aCallees
import Derived.Deep.LoopGhost
namespace Go.Proofs.Qxb6604553a
open Go.RowKit

set_option maxHeartbeats 1000000 in
theorem lays_walk (c s : Int) (w : World) :
    Calls Try.prog 3 #[.int .i64 c, .int .i64 s] w fun e w' => e = .returned (.bool true) ∧ Grown w w' := by
  by_cases h1 : c < 1
  · go_enter Try.func3, Try.ntmps3
    go_wp2
    go_ret
    exact ⟨rfl, Grown.refl _⟩
  · by_cases h2 : 65536 < c
    · go_enter Try.func3, Try.ntmps3
      go_wp2
      go_ret
      exact ⟨rfl, Grown.refl _⟩
    · obtain ⟨k, rfl⟩ : ∃ k : Nat, c = (k : Int) + 1 := ⟨(c - 1).toNat, by omega⟩
      have hk : (k : Int) ≤ 65535 := by omega
      clear h1 h2
      go_enter Try.func3, Try.ntmps3
      go_wp2
      generalize wrap64 (s.tdiv ((k : Int) + 1)) = sh
      generalize hla : wrap64 (s - wrap64 ((k : Int) * sh)) = la
      have HL : Hid (wrap64 (s - wrap64 ((k : Int) * sh)) = la) := hla
      clear hla
      go_loop [7, 8] (fun s7 s8 => ∃ (j : Nat) (x : Int), j ≤ k + 1 ∧ s8 = .int .i64 j ∧ s7 = .int .i64 x ∧ Hid (j ≤ k → x = wrap64 (tot sh j)) ∧ Hid (j = k + 1 → x = fsz ((k : Int) + 1) s)) (fun _ s8 => k + 1 - (intOf s8).toNat)
      case atStart => exact ⟨0, 0, Nat.zero_le _, rfl, rfl, (fun _ => by rw [tot_zero]; unfold wrap64; omega), (fun h => by omega)⟩
      case round =>
        obtain ⟨j, x, hj, rfl, rfl, X1, X2⟩ := hrel
        by_cases hlt : j ≤ k
        · by_cases h0 : j = 0
          · subst h0
            by_cases hk0 : k = 0
            · subst hk0
              go_wp2
              go_round
              case rel => exact ⟨1, _, by omega, rfl, rfl, (fun h => by omega), (fun _ => by rw [X1.out (by omega), tot_zero, ← HL.out]; simpa using tot_last0 s)⟩
              case measure => simp [intOf]
            · have hk1 : (0 : Int) < (k : Int) := by omega
              go_wp2
              go_round
              case rel => exact ⟨1, _, by omega, rfl, rfl, (fun h => by rw [X1.out (by omega), tot_zero, wrap_add, tot_one, Int.zero_add]), (fun _ => by omega)⟩
              case measure => simp [intOf]
          · have hj0 : (0 : Int) < (j : Int) := by omega
            by_cases hjk : j < k
            · go_wp2
              go_round
              case rel => exact ⟨j + 1, _, by omega, by go_num, rfl, (fun h => by rw [X1.out (by omega), wrap_add2, tot_succ sh j h0]), (fun _ => by omega)⟩
              case measure => simp [intOf]; omega
            · obtain rfl : j = k := by omega
              go_wp2
              go_round
              case rel => exact ⟨j + 1, _, by omega, by go_num, rfl, (fun h => by omega), (fun _ => by rw [X1.out (by omega), ← HL.out, tot_last sh s j h0])⟩
              case measure => simp [intOf]
        · obtain rfl : j = k + 1 := by omega
          obtain rfl := X2.out rfl
          clear X1 X2
          go_wp2_with fail
          refine (size5 _ _ _).mono ?_
          rintro e w' ⟨rfl, rfl⟩
          go_wp2
          go_ret
          exact ⟨rfl, by repeat (first | exact Grown.refl _ | apply Grown.drew | apply Grown.alloc)⟩
end Go.Proofs.Qxb6604553a
