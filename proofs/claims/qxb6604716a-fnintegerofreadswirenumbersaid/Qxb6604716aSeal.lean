/-
  (*packer).seal WITH ONE SET-ASIDE BYTE AND ONE NUMBER AT THE HEAD.
-/
import Derived.Test.Qxb6604716aUvarint
import Derived.Laws.CopyOwn
import Derived.Deep.RegionLawGrows
namespace Go.Proofs.Qxb6604716a
open Go.RowKit
set_option linter.unusedVariables false

/-- A ROW OF BYTES OF WHICH THE FIRST n CELLS ARE KNOWN. -/
def Pre (w : World) (g n : Nat) (f : Nat → Int) : Prop :=
  ∃ c : List Value, w.heap[g]? = some (.cells c.toArray 5 (0, 0)) ∧ n ≤ c.length ∧ ∀ i, i < n → c[i]? = some (.int .u8 (f i))

theorem Pre.cell {w : World} {g n : Nat} {f : Nat → Int} (h : Pre w g n f) {i : Nat} (hi : i < n) : w.cell? ⟨g, i, none⟩ = some (.int .u8 (f i)) := by
  obtain ⟨c, hg, hn, hc⟩ := h
  simp [World.cell?, hg, hc i hi]
theorem Pre.frozen {w : World} {g n : Nat} {f : Nat → Int} (h : Pre w g n f) (i : Nat) : w.frozen? ⟨g, i, none⟩ = false := by
  obtain ⟨c, hg, hn, hc⟩ := h
  simp [World.frozen?, hg]
theorem Pre.lt {w : World} {g n : Nat} {f : Nat → Int} (h : Pre w g n f) : g < w.heap.size := by
  obtain ⟨c, hg, hn, hc⟩ := h
  exact (Array.getElem?_eq_some_iff.1 hg).1
theorem Pre.congr {w : World} {g n : Nat} {f f' : Nat → Int} (h : Pre w g n f) (e : ∀ i, i < n → f i = f' i) : Pre w g n f' := by
  obtain ⟨c, hg, hn, hc⟩ := h
  exact ⟨c, hg, hn, fun i hi => by rw [hc i hi, e i hi]⟩
theorem Pre.of_block {w w' : World} {g n : Nat} {f : Nat → Int} (h : Pre w g n f) (e : w'.heap[g]? = w.heap[g]?) : Pre w' g n f := by
  obtain ⟨c, hg, hn, hc⟩ := h
  exact ⟨c, e.trans hg, hn, hc⟩
theorem Pre.of_row {w : World} {g n : Nat} {f : Nat → Int} (h : w.rowIs g 5 n (fun i => .int .u8 (f i))) : Pre w g n f := by
  obtain ⟨c, hg, hn, hc⟩ := h
  exact ⟨c.toList, by simpa using hg, by simp [hn], fun i hi => by simpa using hc i hi⟩

theorem splice_get {α : Type} (L : List α) (off : Nat) (cs : List α) (h : off + cs.length ≤ L.length) (i : Nat) :
    (splice L off cs)[i]? = if i < off then L[i]? else if i < off + cs.length then cs[i - off]? else L[i]? := by
  unfold splice
  by_cases h1 : i < off
  · rw [if_pos h1, List.getElem?_append_left (by simp; omega), List.getElem?_take, if_pos h1]
  · rw [if_neg h1, List.getElem?_append_right (by simp; omega)]
    have hl : (L.take off).length = off := by simp; omega
    rw [hl]
    by_cases h2 : i < off + cs.length
    · rw [if_pos h2, List.getElem?_append_left (by omega)]
    · rw [if_neg h2, List.getElem?_append_right (by omega), List.getElem?_drop]
      congr 1
      omega

/-- The cells from place a on, m of them. -/
def seg (f : Nat → Int) (a m : Nat) : List Value := (List.range m).map fun j => .int .u8 (f (a + j))
theorem seg_length (f : Nat → Int) (a m : Nat) : (seg f a m).length = m := by simp [seg]
theorem seg_get {f : Nat → Int} {a m j : Nat} {v : Value} (h : (seg f a m)[j]? = some v) : j < m ∧ v = .int .u8 (f (a + j)) := by
  by_cases hj : j < m
  · rw [seg, List.getElem?_map, List.getElem?_range hj] at h
    exact ⟨hj, (Option.some.inj h).symm⟩
  · rw [List.getElem?_eq_none (by rw [seg_length]; omega)] at h
    cases h
theorem seg_at {f : Nat → Int} {a m j : Nat} (h : j < m) : (seg f a m)[j]? = some (.int .u8 (f (a + j))) := by simp [seg, h]
theorem seg_one (f : Nat → Int) (a m : Nat) : ∀ v ∈ seg f a m, v.oneCell' = true := by
  intro v hv
  simp [seg] at hv
  obtain ⟨j, _, rfl⟩ := hv
  rfl

theorem Pre.splice {w : World} {g n m off : Nat} {f f' : Nat → Int} {cur : List Value} {h : Nat → Int} {a : Nat}
    (hg : w.heap[g]? = some (.cells (splice cur off (seg h a m)).toArray 5 (0, 0))) (hn : n ≤ cur.length) (hc : ∀ i, i < n → cur[i]? = some (.int .u8 (f i))) (hfit : off + m ≤ cur.length)
    (e : ∀ i, i < n → f' i = if i < off then f i else if i < off + m then h (a + (i - off)) else f i) : Pre w g n f' := by
  have hl := seg_length h a m
  refine ⟨_, hg, by rw [length_splice _ _ _ (by omega)]; exact hn, fun i hi => ?_⟩
  rw [splice_get _ _ _ (by omega), e i hi, hl]
  by_cases h1 : i < off
  · rw [if_pos h1, if_pos h1]; exact hc i hi
  · rw [if_neg h1, if_neg h1]
    by_cases h2 : i < off + m
    · rw [if_pos h2, if_pos h2]; exact seg_at (by omega)
    · rw [if_neg h2, if_neg h2]; exact hc i hi

/-- NOTHING OF w HAS TURNED BUT BLOCKS OF S. -/
structure Kept (S : Nat → Prop) (w w' : World) : Prop where
  os : w'.os = w.os
  tape : w'.tape = w.tape
  output : w'.output = w.output
  size : w.heap.size ≤ w'.heap.size
  block : ∀ k, k < w.heap.size → ¬ S k → w'.heap[k]? = w.heap[k]?

theorem Kept.refl (S : Nat → Prop) (w : World) : Kept S w w := ⟨rfl, rfl, rfl, Nat.le_refl _, fun _ _ _ => rfl⟩
theorem Kept.trans {S T U : Nat → Prop} {a b c : World} (h : Kept S a b) (k : Kept T b c) (hs : ∀ i, i < a.heap.size → S i → U i) (ht : ∀ i, i < a.heap.size → T i → U i) : Kept U a c :=
  ⟨k.os.trans h.os, k.tape.trans h.tape, k.output.trans h.output, Nat.le_trans h.size k.size,
    fun i hi hn => (k.block i (Nat.lt_of_lt_of_le hi h.size) (fun x => hn (ht i hi x))).trans (h.block i hi (fun x => hn (hs i hi x)))⟩
theorem Kept.of_grown {w w' : World} {r : Option Nat} (h : w.grownBy w' r) : Kept (fun k => some k = r) w w' := ⟨h.os, h.tape, h.output, h.size, h.block⟩
theorem Kept.of_below {w w' : World} {B : Nat} (h : Below B w w') : Kept (fun k => B ≤ k) w w' := ⟨h.os, h.tape, h.output, h.size, fun k _ hk => h.block k (by omega)⟩
theorem Kept.alloc (w : World) (o : Obj) : Kept (fun _ => False) w (w.alloc o) := ⟨rfl, rfl, rfl, by simp, fun k hk _ => Below.heap_alloc _ _ _ hk⟩
theorem Kept.drew (w : World) : Kept (fun _ => False) w w.drew := ⟨rfl, rfl, rfl, Nat.le_refl _, fun _ _ _ => rfl⟩
theorem Kept.setCell (w : World) (b o : Nat) (v : Value) : Kept (fun k => k = b) w (w.setCell ⟨b, o, none⟩ v) :=
  ⟨rfl, rfl, rfl, by simp [World.setCell], fun k _ hk => Below.heap_setCell _ _ _ _ hk⟩
theorem Kept.setRow (w : World) (g : Nat) (cs : Array Value) : Kept (fun k => k = g) w (w.setRow g cs) :=
  ⟨rfl, rfl, rfl, by simp [World.setRow], fun k _ hk => setRow_other w g k cs (fun e => hk e)⟩
theorem Kept.mono {S T : Nat → Prop} {a b : World} (h : Kept S a b) (hs : ∀ i, i < a.heap.size → S i → T i) : Kept T a b :=
  ⟨h.os, h.tape, h.output, h.size, fun k hk hn => h.block k hk (fun x => hn (hs k hk x))⟩
theorem Kept.cell {S : Nat → Prop} {w w' : World} (h : Kept S w w') {p : Addr} {v : Value} (hv : w.cell? p = some v) (hp : ¬ S p.block) : w'.cell? p = some v :=
  (World.cell?_of_block (w := w) (h.block p.block (World.block_lt_of_cell? _ _ hv) hp)).trans hv
theorem Kept.below {S : Nat → Prop} {B : Nat} {w w' : World} (h : Kept S w w') (hB : B ≤ w.heap.size) (hS : ∀ k, S k → B ≤ k) : Below B w w' :=
  ⟨h.os, h.tape, h.output, h.size, fun k hk => h.block k (by omega) (fun x => by have := hS k x; omega)⟩

/-- copy INTO A ROW OF THE CALL's OWN, said of the row's known cells. -/
theorem run_copy_pre {P : Program} (w : World) (dT sT ty elem : TypeId) (g off dLen dCap : Nat) (ad : Addr) (sLen sCap : Nat) (hu : P.underlying dT = some (.slice elem)) (hsz : (P.info? elem).map (·.size) = some 1)
    (n m : Nat) (f f' h : Nat → Int) (a0 : Nat) (hP : Pre w g n f) (hm : m = Nat.min sLen dLen) (hsrc : ∀ j, j < m → w.cell? (ad.add j) = some (.int .u8 (h (a0 + j)))) (hfit : off + m ≤ n)
    (e : ∀ i, i < n → f' i = if i < off then f i else if i < off + m then h (a0 + (i - off)) else f i) :
    ∃ w', (Builtin.copy_ #[dT, sT] ty #[.slice (some ⟨g, off, none⟩) dLen dCap, .slice (some ad) sLen sCap]).run P w = .ok (goInt m) w' ∧ Pre w' g n f' ∧ Kept (fun k => k = g) w w' := by
  obtain ⟨c, hg, hn, hc⟩ := hP
  have hl := seg_length h a0 m
  have hr := run_copy_row (P := P) w dT sT ty elem g off dLen dCap ad sLen sCap c.toArray 5 (seg h a0 m) hu hsz hg (by rw [hl, hm]) (fun j v hv => by
    obtain ⟨hj, rfl⟩ := seg_get hv
    exact hsrc j hj) (by rw [hl]; simp; omega) (seg_one _ _ _)
  rw [hl] at hr
  refine ⟨_, hr, ?_, Kept.setRow _ _ _⟩
  refine Pre.splice (cur := c) (off := off) (m := m) (h := h) (a := a0) ?_ hn hc (by omega) e
  rw [setRow_heap w g _ _ 5 _ hg]
  simp [splice, hl]

theorem uv_src {B : Nat} {w w1 : World} {n k : Nat} (h : Uv B w w1 n k) (hk : k ≤ 20) : ∀ j, j < k → w1.cell? ((⟨B, 0, none⟩ : Addr).add j) = some (.int .u8 (ub n (0 + j) : Int)) := by
  intro j hj
  have := h.row.cell (i := j) (by omega)
  rw [Addr.add_lit, Nat.zero_add, this, if_pos hj]

theorem sized5 : (Try.prog.info? 5).map (·.size) = some 1 := by kernel_rfl

/-- The zero array of 20 bytes. -/
def zeros20 : Array Value := #[.int .u8 0, .int .u8 0, .int .u8 0, .int .u8 0, .int .u8 0, .int .u8 0, .int .u8 0, .int .u8 0, .int .u8 0, .int .u8 0, .int .u8 0, .int .u8 0, .int .u8 0, .int .u8 0, .int .u8 0, .int .u8 0, .int .u8 0, .int .u8 0, .int .u8 0, .int .u8 0]
theorem zeros20_get (i : Nat) (h : i < zeros20.size) : zeros20[i]? = some (.int .u8 0) := by
  have e : zeros20 = Array.replicate 20 (.int .u8 0) := rfl
  rw [e] at h ⊢
  simp at h
  simp [h]

set_option maxHeartbeats 2000000 in
set_option maxRecDepth 100000 in
theorem seal_small (PB OB HB L s n : Nat) (X : Nat → Int) (w : World) (hL : L ≤ 1048576) (hs : s < L) (hn : n + s + 1 = L) (hsm : n < 128)
    (hp : w.cell? ⟨PB, 0, none⟩ = some (.slice (some ⟨OB, 0, none⟩) L L)) (hh : w.cell? ⟨HB, 0, none⟩ = some (.int .u64 n)) (hPO : PB ≠ OB)
    (hrow : w.rowIs OB 5 L (fun i => .int .u8 (X i))) :
    Calls Try.prog 26 #[.pointer (some ⟨PB, 0, none⟩), .int .i64 s, .int .i64 1, .slice (some ⟨HB, 0, none⟩) 1 1] w fun e w' => e = .returned (.tuple #[]) ∧
      w'.cell? ⟨PB, 0, none⟩ = some (.slice (some ⟨OB, 0, none⟩) L L) ∧ Pre w' OB L (sealed X s n) ∧ Kept (fun k => k = OB) w w' := by
  have hrow0 : (w.alloc (Obj.cells (zeros20) 82)).rowIs w.heap.size 82 20 (fun _ => .int .u8 0) := by
    refine World.rowIs_alloc w zeros20 82 _ (fun i hi => ?_)
    exact zeros20_get i hi
  unfold zeros20 at hrow0
  have HR0 : Hid _ := hrow0
  have HROW : Hid (w.rowIs OB 5 L (fun i => .int .u8 (X i))) := hrow
  have hOB : OB < w.heap.size := hrow.lt
  have hPB : PB < w.heap.size := World.block_lt_of_cell? _ _ hp
  have hHB : HB < w.heap.size := World.block_lt_of_cell? _ _ hh
  have hh' : ∀ o, (w.alloc o).cell? ⟨HB, 0, none⟩ = some (.int .u64 n) := fun o => (Kept.alloc w o).cell hh (fun h => h)
  clear hrow0 hrow
  go_enter Try.func26, Try.ntmps26
  go_wp2
  refine wp_loop_rounds 2 ?_
  rw [rounds_succ]
  go_wp2_with fail
  refine (uvarint27 _ n _ (by omega) HR0.out).mono ?_
  rintro e w1 ⟨rfl, hU⟩
  have e1 : un n = 1 := un_one.2 hsm
  rw [e1] at hU ⊢
  have K1 : Kept (fun k => k = w.heap.size) w w1 := (Kept.alloc _ _).trans (Kept.of_grown hU.grown) (fun _ _ h => h.elim) (fun i hi h => by simpa using h)
  have HU : Hid _ := hU
  have HK1 : Hid _ := K1
  have hp1 : w1.cell? ⟨PB, 0, none⟩ = some (.slice (some ⟨OB, 0, none⟩) L L) := K1.cell hp (by simp; omega)
  clear hU K1 HR0 hh hh' hHB
  go_wp2_with fail
  rw [rounds_succ]
  go_wp2_with fail
  obtain ⟨w2, hrun, P2, K2⟩ := run_copy_pre (P := Try.prog) w1 22 22 3 5 OB s (L - s) (L - s) ⟨w.heap.size, 0, none⟩ 1 20 Try.underlying22 sized5 L 1 X (sealed X s n) (fun j => (ub n j : Int)) 0
    ((Pre.of_row HROW.out).of_block (HK1.out.block OB hOB (by omega))) (Nat.min_eq_left (by omega)).symm (uv_src HU.out (by omega)) (by omega) (fun i hi => by
      unfold sealed; rw [un_one.2 hsm]
      by_cases h1 : i < s
      · rw [if_pos h1, if_pos h1]
      · rw [if_neg h1, if_neg h1]
        by_cases h2 : i < s + 1
        · rw [if_pos h2, if_pos h2]; simp
        · rw [if_neg h2, if_neg h2]; simp)
  rw [hrun]
  have HP2 : Hid _ := P2
  have HK2 : Hid _ := K2
  clear hrun P2 K2
  go_wp2
  go_end0
  refine ⟨rfl, ?_, HP2.out, ?_⟩
  · exact HK2.out.cell hp1 hPO
  · exact HK1.out.trans HK2.out (fun i hi h => by omega) (fun i hi h => h)


theorem Pre.of_seg {w : World} {g n : Nat} {f : Nat → Int} (h : Pre w g n f) : ∀ j u, (seg f 0 n)[j]? = some u → w.cell? ((⟨g, 0, none⟩ : Addr).add j) = some u := by
  intro j u hj
  obtain ⟨h1, rfl⟩ := seg_get hj
  rw [Addr.add_lit, Nat.zero_add]
  exact h.cell h1

/-- append THAT GROWS, as a step of a region that draws, said of the row's known cells. -/
theorem step_append_pre {ops : Array Oper} {o : Oper} {a : Act} {w : World} {K : Act → World → Prop} {Q : Exit → Act → World → Prop} {E : Prop}
    (hg : o.guard = none) (s x : Operand) (hop : o.op = Op.call { callee := Callee.builtin Builtin.append, args := #[s, x], argTypes := #[22, 22] })
    (OB L : Nat) (X : Nat → Int) (hs : a.eval s = .slice (some ⟨OB, 0, none⟩) L L) (hX : Pre w OB L X)
    (ad : Addr) (m c : Nat) (hx : a.eval x = .slice (some ad) m c) (h : Nat → Int) (hsrc : ∀ j, j < m → w.cell? (ad.add j) = some (.int .u8 (h (0 + j)))) (hm : 0 < m) (hL : L + m ≤ 1073741824)
    (hK : ∀ g cap w', w.heap.size ≤ g → L + m ≤ cap → Hid (Pre w' g (L + m) (fun i => if i < L then X i else h (i - L))) → Hid (Kept (fun _ => False) w w') → K (a.put o.dst (.slice (some ⟨g, 0, none⟩) (L + m) cap)) w') :
    if Region.wanted o (yielded ops a.tmps) = true then Oper.wp Try.prog o a w K Q else E := by
  obtain ⟨i0, hi, hz0, hz1, hz2⟩ := info_parts Try.info5
  refine step_append_grows hg s x 22 hop 5 i0 (.int .u8 0) 1 1 Try.underlying22 hi hz0 hz1 hz2 rfl (by decide) (some ⟨OB, 0, none⟩) L L (seg X 0 L) hs (fun h => by cases h) (by rw [seg_length]; omega) (fun b hb => by
    cases hb
    exact hX.of_seg) ad m c (seg h 0 m) hx (by rw [seg_length]; omega) (fun j u hj => by
    obtain ⟨h1, rfl⟩ := seg_get hj
    exact hsrc j h1) (seg_one _ _ _) (by omega) (by unfold maxLen; omega) (by omega) ?_
  intro v' w' hown hgrow
  rcases hown.2 with ⟨_, h0⟩ | ⟨g, cap, cur, rfl, hb, hgg, hnc, _, hcs, htake⟩
  · omega
  · refine hK g cap w' hb hnc ?_ ((Kept.of_grown hgrow).mono (fun i _ h => by cases h))
    refine ⟨cur.toList, by simpa using hgg, by simp [hcs]; omega, fun i hi => ?_⟩
    have e : (cur.toList.take ((L + m) * 1))[i]? = (seg X 0 L ++ seg h 0 m)[i]? := by rw [htake]
    rw [List.getElem?_take, if_pos (by omega)] at e
    rw [e]
    show _ = some (Value.int .u8 (if i < L then X i else h (i - L)))
    by_cases h1 : i < L
    · rw [List.getElem?_append_left (by rw [seg_length]; omega), seg_at h1, if_pos h1, Nat.zero_add]
    · rw [List.getElem?_append_right (by rw [seg_length]; omega), seg_length, seg_at (by omega), if_neg h1, Nat.zero_add]

/-- copy, as a step of a region that draws, said of the row's known cells. -/
theorem step_copy_pre {ops : Array Oper} {o : Oper} {a : Act} {w : World} {K : Act → World → Prop} {Q : Exit → Act → World → Prop} {E : Prop}
    (hgd : o.guard = none) (d s : Operand) (ho : o.op = .call { callee := .builtin .copy, args := #[d, s], argTypes := #[22, 22] })
    (g off dLen dCap : Nat) (ad : Addr) (sLen sCap : Nat) (hd : a.eval d = .slice (some ⟨g, off, none⟩) dLen dCap) (hs : a.eval s = .slice (some ad) sLen sCap)
    (n m : Nat) (f f' h : Nat → Int) (a0 : Nat) (hP : Pre w g n f) (hm : m = Nat.min sLen dLen) (hsrc : ∀ j, j < m → w.cell? (ad.add j) = some (.int .u8 (h (a0 + j)))) (hfit : off + m ≤ n)
    (e : ∀ i, i < n → f' i = if i < off then f i else if i < off + m then h (a0 + (i - off)) else f i)
    (hK : ∀ w', Hid (Pre w' g n f') → Hid (Kept (fun k => k = g) w w') → K (a.put o.dst (goInt m)) w') :
    if Region.wanted o (yielded ops a.tmps) = true then Oper.wp Try.prog o a w K Q else E := by
  have hw : Region.wanted o (yielded ops a.tmps) = true := by simp [Region.wanted, hgd]
  rw [if_pos hw]
  obtain ⟨w', hrun, h1, h2⟩ := run_copy_pre (P := Try.prog) w 22 22 o.type 5 g off dLen dCap ad sLen sCap Try.underlying22 sized5 n m f f' h a0 hP hm hsrc hfit e
  unfold Oper.wp
  simp [execOp, ho, resolve, invoke, builtin, hd, hs, hrun, Result.andThen]
  exact hK w' h1 h2

/-- The row behind the append; behind the first copy. -/
def grown1 (X : Nat → Int) (n L i : Nat) : Int := if i < L then X i else (ub n (i - L) : Int)
def grown2 (X : Nat → Int) (n L s v i : Nat) : Int := if i < s + (v + 1) then grown1 X n L i else X (i - v)
theorem sealed_of (X : Nat → Int) {n L s v i : Nat} (hs : s < L) (hv : un n = v + 1) (hi : i < L + v) :
    sealed X s n i = if i < s then grown2 X n L s v i else if i < s + (v + 1) then (ub n (0 + (i - s)) : Int) else grown2 X n L s v i := by
  unfold sealed
  rw [hv]
  by_cases h1 : i < s
  · rw [if_pos h1, if_pos h1]
    unfold grown2 grown1
    rw [if_pos (by omega), if_pos (by omega)]
  · rw [if_neg h1, if_neg h1, Nat.zero_add]
    by_cases h2 : i < s + (v + 1)
    · rw [if_pos h2, if_pos h2]
    · rw [if_neg h2, if_neg h2]
      unfold grown2
      rw [if_neg h2, show i + 1 - (v + 1) = i - v by omega]

set_option maxHeartbeats 4000000 in
set_option maxRecDepth 100000 in
theorem seal_big (PB OB HB L s n : Nat) (X : Nat → Int) (w : World) (hL : L ≤ 1048576) (hs : s < L) (hn : n + s + 1 = L) (hsm : 128 ≤ n)
    (hp : w.cell? ⟨PB, 0, none⟩ = some (.slice (some ⟨OB, 0, none⟩) L L)) (hpf : w.frozen? ⟨PB, 0, none⟩ = false) (hh : w.cell? ⟨HB, 0, none⟩ = some (.int .u64 n)) (hPO : PB ≠ OB)
    (hrow : w.rowIs OB 5 L (fun i => .int .u8 (X i))) :
    Calls Try.prog 26 #[.pointer (some ⟨PB, 0, none⟩), .int .i64 s, .int .i64 1, .slice (some ⟨HB, 0, none⟩) 1 1] w fun e w' => e = .returned (.tuple #[]) ∧
      ∃ g cap, w'.cell? ⟨PB, 0, none⟩ = some (.slice (some ⟨g, 0, none⟩) (L + un n - 1) cap) ∧ Pre w' g (L + un n - 1) (sealed X s n) ∧ w.heap.size ≤ g ∧ Kept (fun k => k = PB) w w' := by
  have hrow0 : (w.alloc (Obj.cells (zeros20) 82)).rowIs w.heap.size 82 20 (fun _ => .int .u8 0) := by
    refine World.rowIs_alloc w zeros20 82 _ (fun i hi => ?_)
    exact zeros20_get i hi
  unfold zeros20 at hrow0
  have HR0 : Hid _ := hrow0
  have HROW : Hid (w.rowIs OB 5 L (fun i => .int .u8 (X i))) := hrow
  have hOB : OB < w.heap.size := hrow.lt
  have hPB : PB < w.heap.size := World.block_lt_of_cell? _ _ hp
  have hHB : HB < w.heap.size := World.block_lt_of_cell? _ _ hh
  have hh' : ∀ o, (w.alloc o).cell? ⟨HB, 0, none⟩ = some (.int .u64 n) := fun o => (Kept.alloc w o).cell hh (fun h => h)
  clear hrow0 hrow
  obtain ⟨v, hv⟩ : ∃ v, un n = v + 1 := ⟨un n - 1, by have := un_pos n; omega⟩
  have hv1 : 1 ≤ v := by have := un_cases n; omega
  have hv2 : v ≤ 2 := by have := un_le n; omega
  have HV : Hid (un n = v + 1) := hv
  rw [hv]
  go_enter Try.func26, Try.ntmps26
  go_wp2
  refine wp_loop_rounds 2 ?_
  rw [rounds_succ]
  go_wp2_with fail
  refine (uvarint27 _ n _ (by omega) HR0.out).mono ?_
  rintro e w1 ⟨rfl, hU⟩
  rw [hv] at hU ⊢
  have K1 : Kept (fun k => k = w.heap.size) w w1 := (Kept.alloc _ _).trans (Kept.of_grown hU.grown) (fun _ _ h => h.elim) (fun i hi h => by simpa using h)
  have HU : Hid (Uv w.heap.size (w.alloc (Obj.cells zeros20 82)) w1 n (v + 1)) := hU
  have HK1 : Hid _ := K1
  have hp1 : w1.cell? ⟨PB, 0, none⟩ = some (.slice (some ⟨OB, 0, none⟩) L L) := K1.cell hp (by simp; omega)
  have hpf1 : w1.frozen? ⟨PB, 0, none⟩ = false := by rw [World.frozen?_of_block (w := w) (K1.block PB hPB (by omega))]; exact hpf
  clear hU K1 HR0 hh hh' hHB hv hp hpf
  go_wp2_with fail
  rw [rounds_succ]
  go_wp2_with fail
  have hPre1 : Hid (Pre w1.drew OB L X) := (Pre.of_row HROW.out).of_block (HK1.out.block OB hOB (by omega))
  have hSrc1 : Hid (∀ j, j < v → w1.drew.cell? ((⟨w.heap.size, 0, none⟩ : Addr).add j) = some (.int .u8 (ub n (0 + j) : Int))) := fun j hj => uv_src HU.out (by omega) j (by omega)
  have hv20 : (v : Int) ≤ 20 := by omega
  go_region_law (refine step_append_pre rfl (.tmp 40) (.tmp 43) rfl OB L X rfl hPre1.out ⟨w.heap.size, 0, none⟩ v 20 rfl (fun j => (ub n j : Int)) hSrc1.out (by omega) (by omega) ?_; intro g cap w2 hgw hcap HP2 HK2; have hp2 : w2.cell? ⟨PB, 0, none⟩ = some (.slice (some ⟨OB, 0, none⟩) L L) := HK2.out.cell (w := w1.drew) hp1 (fun h => h); have hpf2 : w2.frozen? ⟨PB, 0, none⟩ = false := (World.frozen?_of_block (w := w1.drew) (HK2.out.block PB (by have := HK1.out.size; simp; omega) (fun h => h))).trans hpf1)
  go_wp2_with fail
  have hszs := HK1.out.size
  have hgP : g ≠ PB := by have : w1.drew.heap.size = w1.heap.size := rfl; omega
  have HK3 : Kept (fun k => k = PB) w (w2.setCell ⟨PB, 0, none⟩ (.slice (some ⟨g, 0, none⟩) (L + v) cap)) :=
    (HK1.out.trans (T := fun k => k = PB) (U := fun k => k = PB) ((Kept.drew w1).trans (HK2.out.trans (U := fun k => k = PB) (Kept.setCell w2 PB 0 _) (fun _ _ h => h.elim) (fun _ _ h => h)) (fun _ _ h => h.elim) (fun _ _ h => h)) (fun i hi h => by omega) (fun _ _ h => h))
  have HS3 : ∀ j, j < v + 1 → (w2.setCell ⟨PB, 0, none⟩ (.slice (some ⟨g, 0, none⟩) (L + v) cap)).cell? ((⟨w.heap.size, 0, none⟩ : Addr).add j) = some (.int .u8 (ub n (0 + j) : Int)) := fun j hj =>
    (Kept.setCell w2 PB 0 _).cell (HK2.out.cell (w := w1.drew) (uv_src HU.out (by omega) j hj) (fun h => h)) (by rw [Addr.add_lit]; show ¬ (w.heap.size = PB); omega)
  have HP3 : Pre (w2.setCell ⟨PB, 0, none⟩ (.slice (some ⟨g, 0, none⟩) (L + v) cap)) g (L + v) (grown1 X n L) := HP2.out.of_block (Below.heap_setCell _ _ _ _ hgP)
  have hp3 : (w2.setCell ⟨PB, 0, none⟩ (.slice (some ⟨g, 0, none⟩) (L + v) cap)).cell? ⟨PB, 0, none⟩ = some (.slice (some ⟨g, 0, none⟩) (L + v) cap) := World.cell?_setCell_same _ _ _ hp2
  have hszs2 : w.heap.size + 1 ≤ w1.heap.size := by have := HU.out.grown.size; simpa using this
  have hgw0 : Hid (w.heap.size < g) := (by have : w1.drew.heap.size = w1.heap.size := rfl; omega : w.heap.size < g)
  generalize (w2.setCell ⟨PB, 0, none⟩ (.slice (some ⟨g, 0, none⟩) (L + v) cap)) = w3 at HK3 HS3 HP3 hp3 ⊢
  have GK3 : Hid _ := HK3
  have GS3 : Hid _ := HS3
  have GP3 : Hid _ := HP3
  clear HK3 HS3 HP3 HK2 HP2 hp2 hpf2 hp1 hpf1 hPre1 hSrc1 HK1 HU HROW hszs hszs2 hgw
  have hcap' : (L : Int) + (v : Int) ≤ (cap : Int) := by omega
  have hcut1 : (s : Int) + ((v : Int) + 1) ≤ (L : Int) + (v : Int) := by omega
  have hcut2 : (s : Int) + 1 ≤ (L : Int) := by omega
  have hcut3 : (L : Int) ≤ (cap : Int) := by omega
  have hw1 : IntKind.i64.wrap ((s : Int) + ((v : Int) + 1)) = (s : Int) + ((v : Int) + 1) := by rw [IntKind.wrap_i64]; omega
  have hw2 : IntKind.i64.wrap ((s : Int) + 1) = (s : Int) + 1 := by rw [IntKind.wrap_i64]; omega
  have ht1 : ((s : Int) + ((v : Int) + 1)).toNat = s + (v + 1) := by omega
  have ht2 : ((s : Int) + 1).toNat = s + 1 := by omega
  have hc1 : ¬ cap = s + (v + 1) := by omega
  have hc2 : ¬ cap = s + 1 := by omega
  have hn1 : (0 : Int) ≤ (s : Int) + ((v : Int) + 1) := by omega
  have hn2 : (0 : Int) ≤ (s : Int) + 1 := by omega
  have qm : Hid (n = Nat.min (L - (s + 1)) (L + v - (s + (v + 1)))) := (by show n = min _ _; omega : n = Nat.min (L - (s + 1)) (L + v - (s + (v + 1))))
  have qs : Hid (∀ j, j < n → w3.drew.cell? ((⟨g, s + 1, none⟩ : Addr).add j) = some (.int .u8 (grown1 X n L (s + 1 + j)))) := fun j hj => by
    rw [Addr.add_lit]; exact Pre.cell GP3.out (by omega)
  have qf : Hid (s + (v + 1) + n ≤ L + v) := (by omega : s + (v + 1) + n ≤ L + v)
  have qe : Hid (∀ i, i < L + v → grown2 X n L s v i = if i < s + (v + 1) then grown1 X n L i else if i < s + (v + 1) + n then grown1 X n L (s + 1 + (i - (s + (v + 1)))) else grown1 X n L i) := fun i hi => by
    unfold grown2
    by_cases h1 : i < s + (v + 1)
    · rw [if_pos h1, if_pos h1]
    · rw [if_neg h1, if_neg h1, if_pos (by omega)]
      unfold grown1
      rw [if_pos (by omega), show s + 1 + (i - (s + (v + 1))) = i - v by omega]
  go_region_law (refine step_copy_pre rfl (.tmp 55) (.tmp 64) rfl g (s + (v + 1)) _ _ ⟨g, s + 1, none⟩ _ _ rfl rfl (L + v) n (grown1 X n L) (grown2 X n L s v) (grown1 X n L) (s + 1) GP3.out qm.out qs.out qf.out qe.out ?_; intro w4 HP4 HK4)
  all_goals
    have hp4 : w4.cell? ⟨PB, 0, none⟩ = some (.slice (some ⟨g, 0, none⟩) (L + v) cap) := HK4.out.cell (w := w3.drew) hp3 (fun h => hgP h.symm)
    have hS4 : ∀ j, j < v + 1 → w4.cell? ((⟨w.heap.size, 0, none⟩ : Addr).add j) = some (.int .u8 (ub n (0 + j) : Int)) := fun j hj => HK4.out.cell (w := w3.drew) (GS3.out j hj) (by rw [Addr.add_lit]; show ¬ (w.heap.size = g); have := hgw0.out; omega)
    obtain ⟨w5, hrun, P5, K5⟩ := run_copy_pre (P := Try.prog) w4 22 22 3 5 g s (L + v - s) (cap - s) ⟨w.heap.size, 0, none⟩ (v + 1) 20 Try.underlying22 sized5 (L + v) (v + 1) (grown2 X n L s v) (sealed X s n) (fun j => (ub n j : Int)) 0
      HP4.out (Nat.min_eq_left (by omega)).symm hS4 (by omega) (fun i hi => sealed_of X hs HV.out hi)
    have HRUN : Hid _ := hrun
    have HP5 : Hid _ := P5
    have HK5 : Hid _ := K5
    have HS4 : Hid _ := hS4
    clear hrun P5 K5 hS4 qm qs qf qe
    have hc5 : ¬ cap = s := by omega
    have hc6 : (s : Int) ≤ (L : Int) + (v : Int) := by omega
    go_wp2_with fail
    rw [HRUN.out]
    go_wp2
    go_end0
    refine ⟨rfl, g, cap, HK5.out.cell hp4 (fun h => hgP h.symm), HP5.out, Nat.le_of_lt hgw0.out, ?_⟩
    exact GK3.out.trans ((Kept.drew w3).trans (HK4.out.trans (U := fun k => k = g) HK5.out (fun _ _ h => h) (fun _ _ h => h)) (fun _ _ h => h.elim) (fun _ _ h => h)) (fun _ _ h => h) (fun i hi h => absurd hgw0.out (by omega))

end Go.Proofs.Qxb6604716a
