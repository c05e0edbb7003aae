/-
  No cell of these rows narrows 'for every input' (looked for: loops, veiled, ifaces, maps, wideKeys, modest, calm, conditions, laid).
  DERIVED. THE GIVEN ROWS OF THIS SEAT. 2 by the template 'for every input the law returns true; each argument reads behind the call as it read before'; 0 by the template 'total and deterministic' (their statements: Qxb6604471aTotals.lean).
  GIVEN WITH THE SEED: the statements are not yours to turn. If you find one false, say at which input.
  Laid BY PROGRAM, IN A SANDBOX (cutbox-rows.mjs): the forced cells as the released guide's own fill.sh prints them over the translation 6dca8553afca2dac… (all of the seat's roots in one cut). By AI agents, Wed Nov 11 2026. No macro, syntax, notation, axiom, sorry.
-/
import Derived.Test.Qxb6604471aChecked
import GoSem.Claim
import GoSem.ClaimJoined
import GoSem.ClaimMapViews
import Derived.JoinedTies
import Derived.KernelRfl
namespace Go.Proofs.Qxb6604471a
/- THE CELL 'sum', in the pinned program and in every row, IS THE sha256 OF THE DUMP (.gsa) THAT Qxb6604471aProg.lean LOADS. Nothing in Lean hashes anything: it is a label: what it is worth is what the hold of that sum in a sandbox is worth. -/
noncomputable def Try.pinned : Pinned := { name := "qxb6604471a", sum := "6dca8553afca2dacf30e9dfc7cd98bc0cd916c6953caf2aea65270acd33a6a24", checked := Try.checked }
namespace Rows
def none {H : Type} : Left H := { results := [], args := [] }

/-- 'zzlaws_bench_b1.FnRankCountsCdfEntriesAtMostU': WHATEVER THE INPUT: true; the input reads as it did. -/
def fnRankCountsCdfEntriesAtMostUSpec : ChangeSpec := { name := "fnRankCountsCdfEntriesAtMostU", fn := fun _ => fun
  | [d1, d2] => { results := [.lit (.bool true)], args := [d1, d2] }
  | _ => none }
def fnRankCountsCdfEntriesAtMostURow : OpenClaim := { program := "qxb6604471a", sum := "6dca8553afca2dacf30e9dfc7cd98bc0cd916c6953caf2aea65270acd33a6a24", func := "example.com/causeway/causeway/zzlaws_bench_b1.FnRankCountsCdfEntriesAtMostU", spec := "fnRankCountsCdfEntriesAtMostU", unfollowed := true, recurses := true, apart := false }
def FnRankCountsCdfEntriesAtMostUSaid : Prop := fnRankCountsCdfEntriesAtMostURow.holds Try.pinned (OpenSpec.ofChange fnRankCountsCdfEntriesAtMostUSpec)

/-- ITS FALSE NEIGHBOUR: 'it returns false'. Refute it at one input. -/
def fnRankCountsCdfEntriesAtMostUWrong : ChangeSpec := { name := "fnRankCountsCdfEntriesAtMostU", fn := fun _ => fun
  | [d1, d2] => { results := [.lit (.bool false)], args := [d1, d2] }
  | _ => none }
def FnRankCountsCdfEntriesAtMostUWrongFalsely : Prop := fnRankCountsCdfEntriesAtMostURow.holds Try.pinned (OpenSpec.ofChange fnRankCountsCdfEntriesAtMostUWrong)

/-- 'zzlaws_bench_b1.FnRankLiesInItsCdfIntervalAndIsMonotone': WHATEVER THE INPUT: true; the input reads as it did. -/
def fnRankLiesInItsCdfIntervalAndIsMonotoneSpec : ChangeSpec := { name := "fnRankLiesInItsCdfIntervalAndIsMonotone", fn := fun _ => fun
  | [d1, d2, d3] => { results := [.lit (.bool true)], args := [d1, d2, d3] }
  | _ => none }
def fnRankLiesInItsCdfIntervalAndIsMonotoneRow : OpenClaim := { program := "qxb6604471a", sum := "6dca8553afca2dacf30e9dfc7cd98bc0cd916c6953caf2aea65270acd33a6a24", func := "example.com/causeway/causeway/zzlaws_bench_b1.FnRankLiesInItsCdfIntervalAndIsMonotone", spec := "fnRankLiesInItsCdfIntervalAndIsMonotone", unfollowed := true, recurses := true, apart := false }
def FnRankLiesInItsCdfIntervalAndIsMonotoneSaid : Prop := fnRankLiesInItsCdfIntervalAndIsMonotoneRow.holds Try.pinned (OpenSpec.ofChange fnRankLiesInItsCdfIntervalAndIsMonotoneSpec)

/-- ITS FALSE NEIGHBOUR: 'it returns false'. Refute it at one input. -/
def fnRankLiesInItsCdfIntervalAndIsMonotoneWrong : ChangeSpec := { name := "fnRankLiesInItsCdfIntervalAndIsMonotone", fn := fun _ => fun
  | [d1, d2, d3] => { results := [.lit (.bool false)], args := [d1, d2, d3] }
  | _ => none }
def FnRankLiesInItsCdfIntervalAndIsMonotoneWrongFalsely : Prop := fnRankLiesInItsCdfIntervalAndIsMonotoneRow.holds Try.pinned (OpenSpec.ofChange fnRankLiesInItsCdfIntervalAndIsMonotoneWrong)

end Rows
end Go.Proofs.Qxb6604471a
