/-
  THE WALK OF 'FnRankLiesInItsCdfIntervalAndIsMonotone', out of its callees' contracts.
-/
import Derived.Test.Qxb6604471aRank
namespace Go.Proofs.Qxb6604471a.fnRankLiesInItsCdfIntervalAndIsMonotone
open Go.RowKit
set_option linter.unusedVariables false
attribute [local go_sem] binOp_fle run_store_float

/-- THE PLAIN LAW: a larger u never stands earlier. -/
theorem at_mono {n : Nat} {V : Nat → Nat} {u v p p' : Nat} (h : fle u v = true) (hu : At n V u p) (hv : At n V v p') : p ≤ p' := by
  by_cases hlt : p' < p
  · have h1 := fle_trans (hu.lo p' hlt) h
    rw [hv.hi p' (Nat.le_refl _) (by have := hu.le; omega)] at h1
    cases h1
  · omega

theorem bytes9 (a : Option Addr) (n c u v : Nat) (w : World) (hn : n ≤ 1048576) :
    Calls Try.prog 9 #[.slice a n c, .float .f64 u, .float .f64 v] w fun e w' => e = .returned (.bool true) ∧ w' = w := by
  have h1 : ¬ (1048576 : Int) < (n : Int) := by omega
  go_enter Try.func9, Try.ntmps9
  go_wp2
  go_ret
  exact ⟨rfl, rfl⟩
theorem bytes9_no (a : Option Addr) (n c u v : Nat) (w : World) (hn : ¬ n ≤ 1048576) :
    Calls Try.prog 9 #[.slice a n c, .float .f64 u, .float .f64 v] w fun e w' => e = .returned (.bool false) ∧ w' = w := by
  have h1 : (1048576 : Int) < (n : Int) := by omega
  go_enter Try.func9, Try.ntmps9
  go_wp2
  go_ret
  exact ⟨rfl, rfl⟩

set_option maxHeartbeats 1000000 in
/-- zzRankInInterval: the rank's own interval holds u. -/
theorem interval10 (a : Option Addr) (n c : Nat) (V : Nat → Nat) (u p : Nat) (w : World) (hn : n ≤ 1048576) (hr : FRow w a n V) (hA : At n V u p) :
    Calls Try.prog 10 #[.slice a n c, .float .f64 u, .int .i64 (p + 1 : Nat)] w fun e w' => e = .returned (.bool true) ∧ w' = w := by
  have HR : Hid (FRow w a n V) := hr
  have HA : Hid (At n V u p) := hA
  have hp := hA.le
  clear hr hA
  rw [show ((p + 1 : Nat) : Int) = (p : Int) + 1 by omega]
  by_cases h0 : p = 0
  · subst h0
    rw [show ((0 : Nat) : Int) + 1 = 1 from rfl]
    by_cases h1 : 0 < n
    · obtain ⟨b, off, rfl, hc⟩ := HR.out h1
      have c1 : w.cell? ⟨b, off, none⟩ = some (.float .f64 (V 0)) := by simpa using hc 0 h1
      have f1 := HA.out.hi 0 (Nat.le_refl _) h1
      have i1 : (1 : Int) ≤ (n : Int) := by omega
      have i2 : (0 : Int) < (n : Int) := by omega
      clear hc
      go_enter Try.func10, Try.ntmps10
      go_wp2
      go_ret
      exact ⟨rfl, rfl⟩
    · have i1 : ¬ (1 : Int) ≤ (n : Int) := by omega
      go_enter Try.func10, Try.ntmps10
      go_wp2
      go_ret
      exact ⟨rfl, rfl⟩
  · obtain ⟨b, off, rfl, hc⟩ := HR.out (by omega)
    have c0 := hc (p - 1) (by omega)
    have f0 := HA.out.lo (p - 1) (by omega)
    have e0 : ((p : Int) + 1 - 2).toNat = p - 1 := by omega
    have e0' : ((p : Int) - 1).toNat = p - 1 := by omega
    have i0 : (0 : Int) ≤ (p : Int) + 1 - 2 := by omega
    have i3 : (p : Int) + 1 - 2 < (n : Int) := by omega
    have i4 : (1 : Int) < (p : Int) + 1 := by omega
    by_cases h1 : p < n
    · have c1 := hc p h1
      have f1 := HA.out.hi p (Nat.le_refl _) h1
      have i1 : (p : Int) + 1 ≤ (n : Int) := by omega
      clear hc
      go_enter Try.func10, Try.ntmps10
      go_wp2
      go_ret
      exact ⟨rfl, rfl⟩
    · have i1 : ¬ (p : Int) + 1 ≤ (n : Int) := by omega
      clear hc
      go_enter Try.func10, Try.ntmps10
      go_wp2
      go_ret
      exact ⟨rfl, rfl⟩

set_option maxHeartbeats 1000000 in
theorem walk (a : Option Addr) (n c : Nat) (V : Nat → Nat) (u v : Nat) (w : World) (hr : FRow w a n V) :
    Calls Try.prog 4 #[.slice a n c, .float .f64 u, .float .f64 v] w fun e w' => e = .returned (.bool true) ∧ Below w.heap.size w w' := by
  have HR : Hid (FRow w a n V) := hr
  clear hr
  by_cases h1 : n ≤ 1048576
  · by_cases h2 : n ≤ 65536
    · have h3 : ¬ (65536 : Int) < (n : Int) := by omega
      go_enter Try.func4, Try.ntmps4
      go_wp2_with fail
      refine (bytes9 _ _ _ _ _ _ h1).mono ?_
      rintro e w' ⟨rfl, hw⟩
      subst w'
      go_wp2_with fail
      refine (sorted6 _ _ _ V _ h1 HR.out).mono ?_
      rintro e w' ⟨r, rfl, hs, q, rfl⟩
      have HS : Hid (r = true → ∀ j, j + 1 < n → fle (V j) (V (j + 1)) = true) := hs
      clear hs
      cases r with
      | false =>
        go_wp2
        go_ret
        exact ⟨rfl, below_drewN (Below.refl _ _) _⟩
      | true =>
        go_wp2_with fail
        refine (clone7 _ _ _ V _ h1 (frow_below HR.out (below_drewN (Below.refl _ _) _))).mono ?_
        rintro e w1 ⟨a', rfl, hr1, hb1⟩
        have HR1 : Hid (FRow w1 a' n V) := hr1
        have HB1 : Hid (Below w.heap.size w w1) := (below_drewN (Below.refl _ _) _).trans hb1
        clear hr1 hb1
        go_wp2_with fail
        refine (rank8 _ _ _ V _ _ h1 HR1.out (HS.out trivial)).mono ?_
        rintro e w2 ⟨p, rfl, A, hb⟩
        have hp := A.le
        have A1 : Hid (At n V u p) := A
        have HR2 : Hid (FRow w2 a' n V) := frow_below HR1.out hb
        have HB2 : Hid (Below w.heap.size w w2) := HB1.out.trans (hb.mono HB1.out.size)
        clear A hb HR1 HB1
        go_wp2_with fail
        refine (rank8 _ _ _ V _ _ h1 HR2.out (HS.out trivial)).mono ?_
        rintro e w3 ⟨p', rfl, A, hb⟩
        have hp' := A.le
        have A2 : Hid (At n V v p') := A
        have HR3 : Hid (FRow w3 a' n V) := frow_below HR2.out hb
        have HB3 : Hid (Below w.heap.size w w3) := HB2.out.trans (hb.mono HB2.out.size)
        clear A hb HR2 HB2
        go_wp2_with fail
        refine (interval10 _ _ _ V u p _ h1 HR3.out A1.out).mono ?_
        rintro e w4 ⟨rfl, hw⟩
        subst w4
        go_wp2_with fail
        refine (interval10 _ _ _ V v p' _ h1 HR3.out A2.out).mono ?_
        rintro e w4 ⟨rfl, hw⟩
        subst w4
        by_cases hf : fle u v = true
        · have hm := at_mono hf A1.out A2.out
          go_wp2
          go_ret
          exact ⟨rfl, HB3.out⟩
        · have hf' : fle u v = false := by simpa using hf
          clear hf
          go_wp2
          go_ret
          exact ⟨rfl, HB3.out⟩
    · have h3 : (65536 : Int) < (n : Int) := by omega
      go_enter Try.func4, Try.ntmps4
      go_wp2_with fail
      refine (bytes9 _ _ _ _ _ _ h1).mono ?_
      rintro e w' ⟨rfl, hw⟩
      subst w'
      go_wp2
      go_ret
      exact ⟨rfl, Below.refl _ _⟩
  · go_enter Try.func4, Try.ntmps4
    go_wp2_with fail
    refine (bytes9_no _ _ _ _ _ _ h1).mono ?_
    rintro e w' ⟨rfl, hw⟩
    subst w'
    go_wp2
    go_ret
    exact ⟨rfl, Below.refl _ _⟩

end Go.Proofs.Qxb6604471a.fnRankLiesInItsCdfIntervalAndIsMonotone
