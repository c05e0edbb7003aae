/-
  encoding/binary.AppendUvarint ONTO AN ARRAY's HEAD ('var b [20]byte; binary.AppendUvarint(b[:0], n)'), n below 2^21: at most three bytes, there is room: nothing grows.
-/
import Derived.Test.Qxb6604716aPlain
import Derived.Test.Qxb6604716aChecked
import Derived.WalkKit
import Derived.Deep.LoopGhost
import Derived.Deep.OwnRows
import Derived.Deep.QuietTactic
import Derived.BigQuiet
import Derived.WalkSpells
import Derived.Lib.Varint
namespace Go.Proofs.Qxb6604716a
open Go.RowKit

theorem Try.info5 : (Try.prog.info? 5).map (fun i => (i.zero, i.size, i.bytes)) = some (some (.int .u8 0), 1, 1) := by kernel_rfl

/-- WHAT HOLDS AT THE LOOP's HEAD, k bytes written. -/
structure Uv (B : Nat) (w wr : World) (n k : Nat) : Prop where
  grown : w.grownBy wr (some B)
  row : wr.rowIs B 82 20 (fun j => .int .u8 (if j < k then (ub n j : Int) else 0))

theorem grownBy_refl (w : World) (r : Option Nat) : w.grownBy w r := ⟨rfl, rfl, rfl, Nat.le_refl _, fun _ _ _ => rfl⟩
theorem grownBy_trans {a b c : World} {r : Option Nat} (h : a.grownBy b r) (k : b.grownBy c r) : a.grownBy c r :=
  ⟨k.os.trans h.os, k.tape.trans h.tape, k.output.trans h.output, Nat.le_trans h.size k.size, fun i hi hr => (k.block i (Nat.lt_of_lt_of_le hi h.size) hr).trans (h.block i hi hr)⟩
theorem grownBy_setCell (w : World) (b o : Nat) (v : Value) : w.grownBy (w.setCell ⟨b, o, none⟩ v) (some b) :=
  ⟨rfl, rfl, rfl, by simp [World.setCell], fun k _ hk => Below.heap_setCell _ _ _ _ (fun e => hk (by simp [e]))⟩

theorem uv_step {B : Nat} {w wr : World} {n k : Nat} (h : Uv B w wr n k) (o : Obj) (v : Int) (hv : v = (ub n k : Int)) : Uv B w ((wr.alloc o).setCell ⟨B, k, none⟩ (.int .u8 v)) n (k + 1) := by
  subst hv
  refine ⟨grownBy_trans (grownBy_trans h.grown (World.grownBy_alloc wr o _)) (grownBy_setCell _ _ _ _), ((h.row.alloc o).set k _).congr (fun j _ => ?_)⟩
  by_cases e : j = k
  · subst e; simp
  · rw [if_neg e]
    by_cases hlt : j < k
    · rw [if_pos hlt, if_pos (by omega)]
    · rw [if_neg hlt, if_neg (by omega)]

set_option maxHeartbeats 1000000 in
set_option maxRecDepth 100000 in
theorem uvarint27 (B n : Nat) (w : World) (hn : n < 2097152) (hrow : w.rowIs B 82 20 (fun _ => .int .u8 0)) :
    Calls Try.prog 27 #[.slice (some ⟨B, 0, none⟩) 0 20, .int .u64 n] w fun e w' => e = .returned (.slice (some ⟨B, 0, none⟩) (un n) 20) ∧ Uv B w w' n (un n) := by
  obtain ⟨i0, hi, hz0, hz1, hz2⟩ := info_parts Try.info5
  have U0 : Uv B w w n 0 := ⟨grownBy_refl _ _, hrow.congr (fun j _ => by simp)⟩
  have hu3 := un_le n
  have hu1 := un_pos n
  clear hrow
  go_enter Try.func27, Try.ntmps27
  go_wp2
  go_loopg [0, 1] 3 (fun g s0 s1 wr => ∃ k : Nat, k < un n ∧ g = 3 - k ∧ s0 = .slice (some ⟨B, 0, none⟩) k 20 ∧ s1 = .int .u64 (uq n k) ∧ Uv B w wr n k)
  case atStart => exact ⟨0, by omega, rfl, rfl, by rw [uq_zero], U0⟩
  case round =>
    clear U0
    obtain ⟨k, hk, rfl, rfl, rfl, hU⟩ := hrel
    have hmore := uq_more hn hk
    have hle := uq_le n k
    have hc : ∀ o, (wr.alloc o).cell? ⟨B, k, none⟩ = some (.int .u8 0) := fun o => by simpa using (hU.row.alloc o).cell (i := k) (by omega)
    have hf : ∀ o, (wr.alloc o).frozen? ⟨B, k, none⟩ = false := fun o => (hU.row.alloc o).frozen k
    have HU : Hid (Uv B w wr n k) := hU
    by_cases h : 128 ≤ uq n k
    · have hk1 : k + 1 < un n := by omega
      have hub := ub_more hk1
      have hor : bits .or .u8 ((uq n k : Int) % 256) 128 = (ub n k : Int) := by
        rw [Lib.u8_or128_any _ (by omega) (by omega), hub]
        omega
      clear hU hub hmore
      go_wp2
      go_roundg (3 - (k + 1))
      case measure => omega
      case rel => exact ⟨k + 1, hk1, rfl, rfl, by rw [uq_succ]; go_num, uv_step HU.out _ _ rfl⟩
    · have hub := ub_last (show ¬ k + 1 < un n by omega)
      have HK : Hid (k + 1 = un n) := (by omega : k + 1 = un n)
      have HB : Hid ((uq n k : Int) = (ub n k : Int)) := (by rw [hub] : (uq n k : Int) = (ub n k : Int))
      clear hU hub hmore
      go_wp2
      go_ret
      rw [← HK.out]
      exact ⟨rfl, uv_step HU.out _ _ HB.out⟩
end Go.Proofs.Qxb6604716a
