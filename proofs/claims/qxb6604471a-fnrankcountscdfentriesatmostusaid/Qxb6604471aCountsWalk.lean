/-
  THE WALK OF 'FnRankCountsCdfEntriesAtMostU', out of its callees' contracts.
-/
import Derived.Test.Qxb6604471aRank
namespace Go.Proofs.Qxb6604471a.fnRankCountsCdfEntriesAtMostU
open Go.RowKit
set_option linter.unusedVariables false
attribute [local go_sem] binOp_fle run_store_float

/-- How many of the first k entries are at most u. -/
def cnt (V : Nat → Nat) (u : Nat) : Nat → Nat
  | 0 => 0
  | k + 1 => cnt V u k + if fle (V k) u = true then 1 else 0

theorem cnt_le (V : Nat → Nat) (u : Nat) : ∀ k, cnt V u k ≤ k
  | 0 => Nat.le_refl _
  | k + 1 => by have := cnt_le V u k; unfold cnt; split <;> omega

theorem cnt_yes {V : Nat → Nat} {u k : Nat} (h : fle (V k) u = true) : cnt V u (k + 1) = cnt V u k + 1 := by rw [cnt, if_pos h]
theorem cnt_no {V : Nat → Nat} {u k : Nat} (h : fle (V k) u = false) : cnt V u (k + 1) = cnt V u k := by rw [cnt, if_neg (by rw [h]; decide)]; rfl

theorem cnt_at {n : Nat} {V : Nat → Nat} {u p : Nat} (h : At n V u p) : ∀ k, k ≤ n → cnt V u k = min k p
  | 0, _ => by simp [cnt]
  | k + 1, hk => by
    have ih := cnt_at h k (by omega)
    by_cases hp : k < p
    · rw [cnt_yes (h.lo k hp), ih]; omega
    · rw [cnt_no (h.hi k (by omega) (by omega)), ih]; omega

set_option maxHeartbeats 1000000 in
theorem walk (a : Option Addr) (n c : Nat) (V : Nat → Nat) (u : Nat) (w : World) (hr : FRow w a n V) :
    Calls Try.prog 3 #[.slice a n c, .float .f64 u] w fun e w' => e = .returned (.bool true) ∧ Below w.heap.size w w' := by
  have HR : Hid (FRow w a n V) := hr
  clear hr
  by_cases h1 : n ≤ 1048576
  · by_cases h2 : n ≤ 65536
    · have h3 : ¬ (65536 : Int) < (n : Int) := by omega
      go_enter Try.func3, Try.ntmps3
      go_wp2_with fail
      refine (bytes5 _ _ _ _ _ h1).mono ?_
      rintro e w' ⟨rfl, hw⟩
      subst w'
      go_wp2_with fail
      refine (sorted6 _ _ _ V _ h1 HR.out).mono ?_
      rintro e w' ⟨r, rfl, hs, q, rfl⟩
      have HS : Hid (r = true → ∀ j, j + 1 < n → fle (V j) (V (j + 1)) = true) := hs
      clear hs
      cases r with
      | false =>
        go_wp2
        go_ret
        exact ⟨rfl, below_drewN (Below.refl _ _) _⟩
      | true =>
        go_wp2_with fail
        refine (clone7 _ _ _ V _ h1 (frow_below HR.out (below_drewN (Below.refl _ _) _))).mono ?_
        rintro e w1 ⟨a', rfl, hr1, hb1⟩
        have HR1 : Hid (FRow w1 a' n V) := hr1
        have HB1 : Hid (Below w.heap.size w w1) := (below_drewN (Below.refl _ _) _).trans hb1
        clear hr1 hb1
        go_wp2
        go_loop [5, 6] (fun s i => ∃ k : Nat, k ≤ n ∧ i = .int .i64 k ∧ s = .int .i64 (cnt V u k + 1 : Nat)) (fun _ i => n - (intOf i).toNat)
        case atStart => exact ⟨0, Nat.zero_le _, rfl, rfl⟩
        case round =>
          obtain ⟨k, hk, rfl, rfl⟩ := hrel
          have hcl := cnt_le V u k
          by_cases hlt : k < n
          · obtain ⟨b, off, rfl, hc⟩ := HR1.out (by omega)
            have h0 := hc k hlt
            have i2 : (k : Int) < (n : Int) := by omega
            clear hc
            by_cases hf : fle (V k) u = true
            · have HF : Hid (fle (V k) u = true) := hf
              go_wp2
              go_round
              case rel => exact ⟨k + 1, by omega, by go_num, by rw [cnt_yes HF.out]; go_num⟩
              case measure => simp [intOf]; omega
            · have hf' : fle (V k) u = false := by simpa using hf
              have HF : Hid (fle (V k) u = false) := hf'
              clear hf
              go_wp2
              go_round
              case rel => exact ⟨k + 1, by omega, by go_num, by rw [cnt_no HF.out]⟩
              case measure => simp [intOf]; omega
          · obtain rfl : k = n := by omega
            go_wp2_with fail
            refine (rank8 _ _ _ V _ _ h1 HR1.out (HS.out trivial)).mono ?_
            rintro e w' ⟨p, rfl, A, hb⟩
            have hp := A.le
            have e1 := cnt_at A k (Nat.le_refl _)
            obtain rfl : p = cnt V u k := by omega
            clear e1 A
            go_wp2
            go_ret
            exact ⟨rfl, HB1.out.trans (hb.mono HB1.out.size)⟩
    · have h3 : (65536 : Int) < (n : Int) := by omega
      go_enter Try.func3, Try.ntmps3
      go_wp2_with fail
      refine (bytes5 _ _ _ _ _ h1).mono ?_
      rintro e w' ⟨rfl, hw⟩
      subst w'
      go_wp2
      go_ret
      exact ⟨rfl, Below.refl _ _⟩
  · go_enter Try.func3, Try.ntmps3
    go_wp2_with fail
    refine (bytes5_no _ _ _ _ _ h1).mono ?_
    rintro e w' ⟨rfl, hw⟩
    subst w'
    go_wp2
    go_ret
    exact ⟨rfl, Below.refl _ _⟩

end Go.Proofs.Qxb6604471a.fnRankCountsCdfEntriesAtMostU
