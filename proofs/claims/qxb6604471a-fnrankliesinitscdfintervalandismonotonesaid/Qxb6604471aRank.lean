import Derived.Test.Qxb6604471aCallees
namespace Go.Proofs.Qxb6604471a
open Go.RowKit
attribute [local go_sem] binOp_fle run_store_float

/-- What is at most u stands ahead of what is not. -/
theorem fle_ahead {n : Nat} {V : Nat → Nat} {u : Nat} (hs : ∀ j, j + 1 < n → fle (V j) (V (j + 1)) = true) : ∀ (d a b : Nat), b = a + d → b < n → fle (V b) u = true → fle (V a) u = true := by
  intro d
  induction d with
  | zero => intro a b h _ hf; subst h; exact hf
  | succ d ih =>
    intro a b h hb hf
    subst h
    exact ih a (a + d) rfl (by omega) (fle_trans (hs (a + d) (by omega)) hf)

theorem cmp_yes (x u : Nat) (w : World) (h : fle x u = true) : Calls Try.prog 13 #[.float .f64 x, .float .f64 u] w fun e w' => e = .returned (.int .i64 (-1)) ∧ w' = w :=
  (cmp13 x u w).mono fun e w' ⟨he, hw⟩ => ⟨by rw [he, if_pos h], hw⟩
theorem cmp_no (x u : Nat) (w : World) (h : fle x u = false) : Calls Try.prog 13 #[.float .f64 x, .float .f64 u] w fun e w' => e = .returned (.int .i64 1) ∧ w' = w :=
  (cmp13 x u w).mono fun e w' ⟨he, hw⟩ => ⟨by rw [he, h]; rfl, hw⟩

/-- WHERE u STANDS in a row that never falls. -/
structure At (n : Nat) (V : Nat → Nat) (u p : Nat) : Prop where
  le : p ≤ n
  lo : ∀ t, t < p → fle (V t) u = true
  hi : ∀ t, p ≤ t → t < n → fle (V t) u = false

set_option maxHeartbeats 1000000 in
theorem search12 (a : Option Addr) (n c : Nat) (V : Nat → Nat) (u : Nat) (w : World) (hn : n ≤ 1048576) (hr : FRow w a n V) (hs : ∀ j, j + 1 < n → fle (V j) (V (j + 1)) = true) :
    Calls Try.prog 12 #[.slice a n c, .float .f64 u, .func (.func 13) #[] #[]] w fun e w' => ∃ (p : Nat) (f : Bool), e = .returned (.tuple #[.int .i64 p, .bool f]) ∧ At n V u p ∧ w' = w := by
  have HR : Hid (FRow w a n V) := hr
  have HS : Hid (∀ a b, a ≤ b → b < n → fle (V b) u = true → fle (V a) u = true) := fun a b hab hb hf => fle_ahead hs (b - a) a b (by omega) hb hf
  clear hr hs
  go_enter Try.func12, Try.ntmps12
  go_wp2
  go_loop [9, 10] (fun s9 s10 => ∃ lo hi : Nat, s9 = .int .i64 lo ∧ s10 = .int .i64 hi ∧ lo ≤ hi ∧ hi ≤ n ∧ Hid (∀ t, t < lo → fle (V t) u = true) ∧ Hid (∀ t, hi ≤ t → t < n → fle (V t) u = false)) (fun s9 s10 => (intOf s10).toNat - (intOf s9).toNat)
  case atStart => exact ⟨0, n, rfl, rfl, Nat.zero_le _, Nat.le_refl _, (fun t h => by omega), (fun t h1 h2 => by omega)⟩
  case round =>
    obtain ⟨lo, hi, rfl, rfl, hlh, hin, HL, HH⟩ := hrel
    by_cases hlt : lo < hi
    · obtain ⟨b, off, rfl, hc⟩ := HR.out (by omega)
      have h0 := hc ((lo + hi) / 2) (by omega)
      clear hc
      by_cases hf : fle (V ((lo + hi) / 2)) u = true
      · have HF : Hid (fle (V ((lo + hi) / 2)) u = true) := hf
        clear hf
        go_wp2_with (go_at_call 13; refine (cmp_yes _ _ _ HF.out).mono ?_; rintro e w' ⟨rfl, rfl⟩)
        go_round
        case rel =>
          exact ⟨(lo + hi) / 2 + 1, hi, by go_num, rfl, by omega, hin, (fun t ht => HS.out t ((lo + hi) / 2) (by omega) (by omega) HF.out), HH⟩
        case measure => simp [intOf]; omega
      · have HF : Hid (fle (V ((lo + hi) / 2)) u = false) := by simpa [Hid] using hf
        clear hf
        go_wp2_with (go_at_call 13; refine (cmp_no _ _ _ HF.out).mono ?_; rintro e w' ⟨rfl, rfl⟩)
        go_round
        case rel =>
          refine ⟨lo, (lo + hi) / 2, rfl, by go_num, by omega, by omega, HL, (fun t ht htn => ?_)⟩
          by_cases h : fle (V t) u = true
          · have := HS.out ((lo + hi) / 2) t ht htn h
            rw [HF.out] at this
            cases this
          · simpa using h
        case measure => simp [intOf]; omega
    · obtain rfl : hi = lo := by omega
      have A : Hid (At n V u hi) := ⟨hin, HL.out, HH.out⟩
      by_cases hn : hi < n
      · obtain ⟨b, off, rfl, hc⟩ := HR.out (by omega)
        have h0 := hc hi (by omega)
        clear hc
        go_wp2_with (go_at_call 13; refine (cmp_no _ _ _ (A.out.hi hi (Nat.le_refl _) hn)).mono ?_; rintro e w' ⟨rfl, rfl⟩)
        go_ret2
        exact ⟨hi, _, rfl, A.out, rfl⟩
      · go_wp2
        go_ret2
        exact ⟨hi, .inl rfl, A.out, rfl⟩

theorem below_drewN {B : Nat} {a w : World} (h : Below B a w) (n : Nat) : Below B a (w.drewN n) := h.trans ⟨rfl, rfl, rfl, Nat.le_refl _, fun _ _ => rfl⟩
theorem frow_below {w w' : World} {a : Option Addr} {n : Nat} {V : Nat → Nat} (h : FRow w a n V) (hb : Below w.heap.size w w') : FRow w' a n V := by
  intro hn
  obtain ⟨b, off, e, hc⟩ := h hn
  exact ⟨b, off, e, fun i hi => cell_later hb (hc i hi)⟩

/-- popularity.rank. -/
theorem rank11 (a : Option Addr) (n c : Nat) (V : Nat → Nat) (u : Nat) (w : World) (hn : n ≤ 1048576) (hr : FRow w a n V) (hs : ∀ j, j + 1 < n → fle (V j) (V (j + 1)) = true) :
    Calls Try.prog 11 #[.agg #[.slice a n c], .float .f64 u] w fun e w' => ∃ p : Nat, e = .returned (.int .i64 (p + 1 : Nat)) ∧ At n V u p ∧ Below w.heap.size w w' := by
  have HR : Hid (FRow w a n V) := hr
  have HS : Hid (∀ j, j + 1 < n → fle (V j) (V (j + 1)) = true) := hs
  clear hr hs
  go_enter Try.func11, Try.ntmps11
  go_wp2_with fail
  refine (search12 _ _ _ V _ _ hn (frow_below HR.out ((Below.refl _ _).alloc (Nat.le_refl _) _)) HS.out).mono ?_
  rintro e w' ⟨p, f, rfl, A, rfl⟩
  have hp := A.le
  have A' : Hid (At n V u p) := A
  clear A
  go_wp2
  go_ret
  exact ⟨p, by rw [show ((p + 1 : Nat) : Int) = (p : Int) + 1 by omega]; rfl, A'.out, (Below.refl _ _).alloc (Nat.le_refl _) _⟩

/-- bench.ZZrank. -/
theorem rank8 (a : Option Addr) (n c : Nat) (V : Nat → Nat) (u : Nat) (w : World) (hn : n ≤ 1048576) (hr : FRow w a n V) (hs : ∀ j, j + 1 < n → fle (V j) (V (j + 1)) = true) :
    Calls Try.prog 8 #[.slice a n c, .float .f64 u] w fun e w' => ∃ p : Nat, e = .returned (.int .i64 (p + 1 : Nat)) ∧ At n V u p ∧ Below w.heap.size w w' := by
  have HR : Hid (FRow w a n V) := hr
  have HS : Hid (∀ j, j + 1 < n → fle (V j) (V (j + 1)) = true) := hs
  clear hr hs
  go_enter Try.func8, Try.ntmps8
  go_wp2_with fail
  refine (rank11 _ _ _ V _ _ hn HR.out HS.out).mono ?_
  rintro e w' ⟨p, rfl, A, hb⟩
  have A' : Hid (At n V u p) := A
  clear A
  go_wp2
  go_ret
  exact ⟨p, rfl, A'.out, hb⟩

end Go.Proofs.Qxb6604471a
