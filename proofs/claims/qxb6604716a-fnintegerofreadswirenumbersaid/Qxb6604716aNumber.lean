/-
  numberBits and the makers and readers around it.
-/
import Derived.Test.Qxb6604716aReadBits
namespace Go.Proofs.Qxb6604716a
open Go.RowKit
set_option linter.unusedVariables false

/-- A number of n bytes, its sign carried up into 64 bits where it is a signed one's. -/
def sext (signed : Bool) (n : Nat) (V : Int) : Int := if signed then IntKind.u64.wrap (wrap64 (V * 2 ^ (64 - 8 * n)) / 2 ^ (64 - 8 * n)) else V
/-- The kind's number. -/
def kd (signed : Bool) : Int := if signed then 1 else 0
/-- Is the integer negative? -/
def neg (signed : Bool) (bts : Int) : Bool := signed && decide (wrap64 bts < 0)

theorem newNum8 (k n : Int) (big : Bool) (w : World) :
    Calls Try.prog 8 #[.int .u8 k, .int .i64 n, .bool big] w fun e w' => e = .returned (.pointer (some ⟨w.heap.size, 0, none⟩)) ∧ w'.cell? ⟨w.heap.size, 0, none⟩ = some (.int .u8 k) ∧ w'.cell? ⟨w.heap.size, 1, none⟩ = some (.int .i64 n) ∧ w'.cell? ⟨w.heap.size, 2, none⟩ = some (.bool big) ∧ Below w.heap.size w w' := by
  go_enter Try.func8, Try.ntmps8
  go_wp2
  go_ret
  exact ⟨rfl, by simp, by simp, by simp, (Below.refl _ _).alloc (Nat.le_refl _) _⟩

theorem newVal10 (p : Option Addr) (bts : Int) (w : World) :
    Calls Try.prog 10 #[.pointer p, .int .u64 bts] w fun e w' => e = .returned (.agg #[.pointer p, .int .u64 bts, .slice none 0 0]) ∧ Below w.heap.size w w' := by
  go_enter Try.func10, Try.ntmps10
  go_wp2
  exact bodyPost_ret (v := .agg #[.pointer p, .int .u64 bts, .slice none 0 0]) (by simp [results, Try.results10, go_sem]) rfl ⟨rfl, (Below.refl _ _).alloc (Nat.le_refl _) _⟩

theorem integer24 (t : Nat) (signed : Bool) (bts : Int) (w : World) (h : w.cell? ⟨t, 0, none⟩ = some (.int .u8 (kd signed))) :
    Calls Try.prog 24 #[.pointer (some ⟨t, 0, none⟩), .int .u64 bts] w fun e w' => e = .returned (.agg #[.int .u64 bts, .bool (neg signed bts)]) ∧ Below w.heap.size w w' := by
  cases signed with
  | false =>
    have h' : ∀ o, (w.alloc o).cell? ⟨t, 0, none⟩ = some (.int .u8 0) := fun o => (Kept.alloc w o).cell h (fun h => h)
    clear h
    go_enter Try.func24, Try.ntmps24
    go_wp2
    exact bodyPost_ret (v := .agg #[.int .u64 bts, .bool false]) (by simp [results, Try.results24, go_sem]) rfl ⟨rfl, (Below.refl _ _).alloc (Nat.le_refl _) _⟩
  | true =>
    have h' : ∀ o, (w.alloc o).cell? ⟨t, 0, none⟩ = some (.int .u8 1) := fun o => (Kept.alloc w o).cell h (fun h => h)
    clear h
    go_enter Try.func24, Try.ntmps24
    go_wp2
    exact bodyPost_ret (v := .agg #[.int .u64 bts, .bool (decide (wrap64 bts < 0))]) (by simp [results, Try.results24, go_sem]) rfl ⟨by simp [neg], (Below.refl _ _).alloc (Nat.le_refl _) _⟩

theorem new_frozen (w : World) (c : Array Value) (t i : Nat) : (w.alloc (.cells c t)).frozen? ⟨w.heap.size, i, none⟩ = false := by
  unfold World.frozen?; rw [heap_alloc_new]; rfl
theorem new_frozen2 (w : World) (o : Obj) (c : Array Value) (t i : Nat) : ((w.alloc o).alloc (.cells c t)).frozen? ⟨w.heap.size + 1, i, none⟩ = false := by
  have := new_frozen (w.alloc o) c t i
  rwa [show (w.alloc o).heap.size = w.heap.size + 1 by simp] at this

theorem integerOf21 (t : Nat) (signed : Bool) (bts : Int) (w : World) (h : w.cell? ⟨t, 0, none⟩ = some (.int .u8 (kd signed))) :
    Calls Try.prog 21 #[.agg #[.pointer (some ⟨t, 0, none⟩), .int .u64 bts, .slice none 0 0]] w fun e w' => e = .returned (.agg #[.int .u64 bts, .bool (neg signed bts)]) ∧ Below w.heap.size w w' := by
  go_enter Try.func21, Try.ntmps21
  go_wp2_with fail
  refine (integer24 t signed bts _ (cell_later (((Below.refl _ _).alloc (Nat.le_refl _) _).alloc (by simp) _) h)).mono ?_
  rintro e w' ⟨rfl, hb⟩
  generalize hng : neg signed bts = ng
  have HN : Hid (neg signed bts = ng) := hng
  clear hng
  have c0 : w'.cell? ⟨w.heap.size + 1, 0, none⟩ = some (.int .u64 0) := cell_later hb (by simp)
  have c1 : w'.cell? ⟨w.heap.size + 1, 1, none⟩ = some (.bool false) := cell_later hb (by simp)
  have f0 : w'.frozen? ⟨w.heap.size + 1, 0, none⟩ = false := (hb.frozen (by simp)).trans (new_frozen2 _ _ _ _ _)
  have f1 : w'.frozen? ⟨w.heap.size + 1, 1, none⟩ = false := (hb.frozen (by simp)).trans (new_frozen2 _ _ _ _ _)
  have HB : Hid (Below w.heap.size w w') := (((Below.refl _ _).alloc (Nat.le_refl _) _).alloc (by simp) _).trans (hb.mono (by simp; omega))
  clear hb h
  go_wp2
  exact bodyPost_ret (v := .agg #[.int .u64 bts, .bool ng]) (by simp [results, Try.results21, go_sem, c0, c1]) rfl ⟨by rw [HN.out], (HB.out.setCell (by simp) _).setCell (by simp) _⟩

theorem integerOf9 (t : Nat) (signed : Bool) (bts : Int) (w : World) (h : w.cell? ⟨t, 0, none⟩ = some (.int .u8 (kd signed))) :
    Calls Try.prog 9 #[.agg #[.pointer (some ⟨t, 0, none⟩), .int .u64 bts, .slice none 0 0]] w fun e w' => e = .returned (.agg #[.int .u64 bts, .bool (neg signed bts)]) ∧ Below w.heap.size w w' := by
  go_enter Try.func9, Try.ntmps9
  go_wp2_with fail
  refine (integerOf21 t signed bts _ (cell_later (((Below.refl _ _).alloc (Nat.le_refl _) _).alloc (by simp) _) h)).mono ?_
  rintro e w' ⟨rfl, hb⟩
  generalize hng : neg signed bts = ng
  have HN : Hid (neg signed bts = ng) := hng
  clear hng
  have c0 : w'.cell? ⟨w.heap.size + 1, 0, none⟩ = some (.int .u64 0) := cell_later hb (by simp)
  have c1 : w'.cell? ⟨w.heap.size + 1, 1, none⟩ = some (.bool false) := cell_later hb (by simp)
  have f0 : w'.frozen? ⟨w.heap.size + 1, 0, none⟩ = false := (hb.frozen (by simp)).trans (new_frozen2 _ _ _ _ _)
  have f1 : w'.frozen? ⟨w.heap.size + 1, 1, none⟩ = false := (hb.frozen (by simp)).trans (new_frozen2 _ _ _ _ _)
  have HB : Hid (Below w.heap.size w w') := (((Below.refl _ _).alloc (Nat.le_refl _) _).alloc (by simp) _).trans (hb.mono (by simp; omega))
  clear hb h
  go_wp2
  exact bodyPost_ret (v := .agg #[.int .u64 bts, .bool ng]) (by simp [results, Try.results9, go_sem, c0, c1]) rfl ⟨by rw [HN.out], (HB.out.setCell (by simp) _).setCell (by simp) _⟩

theorem intBits12 (bts : Int) (ng : Bool) (w : World) :
    Calls Try.prog 12 #[.agg #[.int .u64 bts, .bool ng]] w fun e w' => e = .returned (.int .u64 bts) ∧ Below w.heap.size w w' := by
  go_enter Try.func12, Try.ntmps12
  go_wp2
  go_ret
  exact ⟨rfl, (Below.refl _ _).alloc (Nat.le_refl _) _⟩
theorem intNeg13 (bts : Int) (ng : Bool) (w : World) :
    Calls Try.prog 13 #[.agg #[.int .u64 bts, .bool ng]] w fun e w' => e = .returned (.bool ng) ∧ Below w.heap.size w w' := by
  go_enter Try.func13, Try.ntmps13
  go_wp2
  go_ret
  exact ⟨rfl, (Below.refl _ _).alloc (Nat.le_refl _) _⟩

set_option maxRecDepth 100000 in
theorem nb_1_yes (t b : Nat) (V : Int) (big : Bool) (w : World) (hv0 : 0 ≤ V) (hv1 : V < 256) (k0 : w.cell? ⟨t, 0, none⟩ = some (.int .u8 1)) (k1 : w.cell? ⟨t, 1, none⟩ = some (.int .i64 1)) (k2 : w.cell? ⟨t, 2, none⟩ = some (.bool big))
    (hr : Calls Try.prog 25 #[.slice (some ⟨b, 0, none⟩) 1 1, .bool big] w fun e w' => e = .returned (.int .u64 V) ∧ Below w.heap.size w w') :
    Calls Try.prog 22 #[.pointer (some ⟨t, 0, none⟩), .slice (some ⟨b, 0, none⟩) 1 1] w fun e w' => e = .returned (.int .u64 (sext true 1 V)) ∧ Below w.heap.size w w' := by
  have HR : Hid (Calls Try.prog 25 #[.slice (some ⟨b, 0, none⟩) 1 1, .bool big] w fun e w' => e = .returned (.int .u64 V) ∧ Below w.heap.size w w') := hr
  clear hr
  go_enter Try.func22, Try.ntmps22
  go_wp2_with fail
  refine Calls.mono HR.out ?_
  rintro e w' ⟨rfl, hb⟩
  have k0' := cell_later hb k0
  have k1' := cell_later hb k1
  have HB : Hid (Below w.heap.size w w') := hb
  clear hb
  go_wp2
  go_ret
  exact ⟨by simp [sext], HB.out⟩
set_option maxRecDepth 100000 in
theorem nb_2_yes (t b : Nat) (V : Int) (big : Bool) (w : World) (hv0 : 0 ≤ V) (hv1 : V < 65536) (k0 : w.cell? ⟨t, 0, none⟩ = some (.int .u8 1)) (k1 : w.cell? ⟨t, 1, none⟩ = some (.int .i64 2)) (k2 : w.cell? ⟨t, 2, none⟩ = some (.bool big))
    (hr : Calls Try.prog 25 #[.slice (some ⟨b, 0, none⟩) 2 2, .bool big] w fun e w' => e = .returned (.int .u64 V) ∧ Below w.heap.size w w') :
    Calls Try.prog 22 #[.pointer (some ⟨t, 0, none⟩), .slice (some ⟨b, 0, none⟩) 2 2] w fun e w' => e = .returned (.int .u64 (sext true 2 V)) ∧ Below w.heap.size w w' := by
  have HR : Hid (Calls Try.prog 25 #[.slice (some ⟨b, 0, none⟩) 2 2, .bool big] w fun e w' => e = .returned (.int .u64 V) ∧ Below w.heap.size w w') := hr
  clear hr
  go_enter Try.func22, Try.ntmps22
  go_wp2_with fail
  refine Calls.mono HR.out ?_
  rintro e w' ⟨rfl, hb⟩
  have k0' := cell_later hb k0
  have k1' := cell_later hb k1
  have HB : Hid (Below w.heap.size w w') := hb
  clear hb
  go_wp2
  go_ret
  exact ⟨by simp [sext], HB.out⟩
set_option maxRecDepth 100000 in
theorem nb_4_yes (t b : Nat) (V : Int) (big : Bool) (w : World) (hv0 : 0 ≤ V) (hv1 : V < 4294967296) (k0 : w.cell? ⟨t, 0, none⟩ = some (.int .u8 1)) (k1 : w.cell? ⟨t, 1, none⟩ = some (.int .i64 4)) (k2 : w.cell? ⟨t, 2, none⟩ = some (.bool big))
    (hr : Calls Try.prog 25 #[.slice (some ⟨b, 0, none⟩) 4 4, .bool big] w fun e w' => e = .returned (.int .u64 V) ∧ Below w.heap.size w w') :
    Calls Try.prog 22 #[.pointer (some ⟨t, 0, none⟩), .slice (some ⟨b, 0, none⟩) 4 4] w fun e w' => e = .returned (.int .u64 (sext true 4 V)) ∧ Below w.heap.size w w' := by
  have HR : Hid (Calls Try.prog 25 #[.slice (some ⟨b, 0, none⟩) 4 4, .bool big] w fun e w' => e = .returned (.int .u64 V) ∧ Below w.heap.size w w') := hr
  clear hr
  go_enter Try.func22, Try.ntmps22
  go_wp2_with fail
  refine Calls.mono HR.out ?_
  rintro e w' ⟨rfl, hb⟩
  have k0' := cell_later hb k0
  have k1' := cell_later hb k1
  have HB : Hid (Below w.heap.size w w') := hb
  clear hb
  go_wp2
  go_ret
  exact ⟨by simp [sext], HB.out⟩
set_option maxRecDepth 100000 in
theorem nb_8_yes (t b : Nat) (V : Int) (big : Bool) (w : World) (hv0 : 0 ≤ V) (hv1 : V < 18446744073709551616) (k0 : w.cell? ⟨t, 0, none⟩ = some (.int .u8 1)) (k1 : w.cell? ⟨t, 1, none⟩ = some (.int .i64 8)) (k2 : w.cell? ⟨t, 2, none⟩ = some (.bool big))
    (hr : Calls Try.prog 25 #[.slice (some ⟨b, 0, none⟩) 8 8, .bool big] w fun e w' => e = .returned (.int .u64 V) ∧ Below w.heap.size w w') :
    Calls Try.prog 22 #[.pointer (some ⟨t, 0, none⟩), .slice (some ⟨b, 0, none⟩) 8 8] w fun e w' => e = .returned (.int .u64 (sext true 8 V)) ∧ Below w.heap.size w w' := by
  have HR : Hid (Calls Try.prog 25 #[.slice (some ⟨b, 0, none⟩) 8 8, .bool big] w fun e w' => e = .returned (.int .u64 V) ∧ Below w.heap.size w w') := hr
  clear hr
  go_enter Try.func22, Try.ntmps22
  go_wp2_with fail
  refine Calls.mono HR.out ?_
  rintro e w' ⟨rfl, hb⟩
  have k0' := cell_later hb k0
  have k1' := cell_later hb k1
  have HB : Hid (Below w.heap.size w w') := hb
  clear hb
  go_wp2
  go_ret
  exact ⟨by simp [sext], HB.out⟩

theorem nb_no (n t b : Nat) (V : Int) (big : Bool) (w : World) (k0 : w.cell? ⟨t, 0, none⟩ = some (.int .u8 0)) (k2 : w.cell? ⟨t, 2, none⟩ = some (.bool big))
    (hr : Calls Try.prog 25 #[.slice (some ⟨b, 0, none⟩) n n, .bool big] w fun e w' => e = .returned (.int .u64 V) ∧ Below w.heap.size w w') :
    Calls Try.prog 22 #[.pointer (some ⟨t, 0, none⟩), .slice (some ⟨b, 0, none⟩) n n] w fun e w' => e = .returned (.int .u64 V) ∧ Below w.heap.size w w' := by
  have HR : Hid (Calls Try.prog 25 #[.slice (some ⟨b, 0, none⟩) n n, .bool big] w fun e w' => e = .returned (.int .u64 V) ∧ Below w.heap.size w w') := hr
  clear hr
  go_enter Try.func22, Try.ntmps22
  go_wp2_with fail
  refine Calls.mono HR.out ?_
  rintro e w' ⟨rfl, hb⟩
  have k0' := cell_later hb k0
  have HB : Hid (Below w.heap.size w w') := hb
  clear hb
  go_wp2
  go_ret
  exact ⟨rfl, HB.out⟩

/-- numberBits. -/
theorem numberBits22 (n t b : Nat) (X : Nat → Int) (big signed : Bool) (w : World) (hn : n = 1 ∨ n = 2 ∨ n = 4 ∨ n = 8) (hX : ∀ i, i < n → 0 ≤ X i ∧ X i ≤ 255) (hc : ∀ i, i < n → w.cell? ⟨b, i, none⟩ = some (.int .u8 (X i)))
    (k0 : w.cell? ⟨t, 0, none⟩ = some (.int .u8 (kd signed))) (k1 : w.cell? ⟨t, 1, none⟩ = some (.int .i64 n)) (k2 : w.cell? ⟨t, 2, none⟩ = some (.bool big)) :
    Calls Try.prog 22 #[.pointer (some ⟨t, 0, none⟩), .slice (some ⟨b, 0, none⟩) n n] w fun e w' => e = .returned (.int .u64 (sext signed n (val X n big))) ∧ Below w.heap.size w w' := by
  have hr := readBits25 n b X big w hn hX hc
  have hv := val_bound big hX
  cases signed with
  | false => exact nb_no n t b _ big w k0 k2 hr
  | true =>
    rcases hn with rfl | rfl | rfl | rfl
    · exact nb_1_yes t b _ big w hv.1 hv.2 k0 k1 k2 hr
    · exact nb_2_yes t b _ big w hv.1 hv.2 k0 k1 k2 hr
    · exact nb_4_yes t b _ big w hv.1 hv.2 k0 k1 k2 hr
    · exact nb_8_yes t b _ big w hv.1 hv.2 k0 k1 k2 hr

theorem zzNumberBits11 (n t b : Nat) (X : Nat → Int) (big signed : Bool) (w : World) (hn : n = 1 ∨ n = 2 ∨ n = 4 ∨ n = 8) (hX : ∀ i, i < n → 0 ≤ X i ∧ X i ≤ 255) (hc : ∀ i, i < n → w.cell? ⟨b, i, none⟩ = some (.int .u8 (X i)))
    (k0 : w.cell? ⟨t, 0, none⟩ = some (.int .u8 (kd signed))) (k1 : w.cell? ⟨t, 1, none⟩ = some (.int .i64 n)) (k2 : w.cell? ⟨t, 2, none⟩ = some (.bool big)) :
    Calls Try.prog 11 #[.pointer (some ⟨t, 0, none⟩), .slice (some ⟨b, 0, none⟩) n n] w fun e w' => e = .returned (.int .u64 (sext signed n (val X n big))) ∧ Below w.heap.size w w' := by
  have HR : Hid (Calls Try.prog 22 #[.pointer (some ⟨t, 0, none⟩), .slice (some ⟨b, 0, none⟩) n n] w fun e w' => e = .returned (.int .u64 (sext signed n (val X n big))) ∧ Below w.heap.size w w') := numberBits22 n t b X big signed w hn hX hc k0 k1 k2
  clear hX hc k0 k1 k2 hn
  generalize sext signed n (val X n big) = v at *
  go_enter Try.func11, Try.ntmps11
  go_wp2_with fail
  refine Calls.mono HR.out ?_
  rintro e w' ⟨rfl, hb⟩
  have HB : Hid (Below w.heap.size w w') := hb
  clear hb
  go_wp2
  go_ret
  exact ⟨rfl, HB.out⟩

end Go.Proofs.Qxb6604716a
