/-
  No cell of these rows narrows 'for every input' (looked for: loops, veiled, ifaces, maps, wideKeys, modest, calm, conditions, laid).
  DERIVED. THE GIVEN ROWS OF THIS SEAT. 2 by the template 'for every input the law returns true; each argument reads behind the call as it read before'; 0 by the template 'total and deterministic' (their statements: Qxb6604553aTotals.lean).
  GIVEN WITH THE SEED: the statements are not yours to turn. If you find one false, say at which input.
  Laid BY PROGRAM, IN A SANDBOX (cutbox-rows.mjs): the forced cells as the released guide's own fill.sh prints them over the translation b33e766395f53561… (all of the seat's roots in one cut). By AI agents, Wed Nov 11 2026. No macro, syntax, notation, axiom, sorry.
-/
import Derived.Test.Qxb6604553aChecked
import GoSem.Claim
import GoSem.ClaimJoined
import GoSem.ClaimMapViews
import Derived.JoinedTies
import Derived.KernelRfl
namespace Go.Proofs.Qxb6604553a
/- THE CELL 'sum', in the pinned program and in every row, IS THE sha256 OF THE DUMP (.gsa) THAT Qxb6604553aProg.lean LOADS. Nothing in Lean hashes anything: it is a label: what it is worth is what the hold of that sum in a sandbox is worth. -/
noncomputable def Try.pinned : Pinned := { name := "qxb6604553a", sum := "b33e766395f5356197db72d56d553a0e4d4d6ddedd4a8e10cd773ad83708fdd5", checked := Try.checked }
namespace Rows
def none {H : Type} : Left H := { results := [], args := [] }

/-- 'zzlaws_internal_protocol_b1.FnJSONFrameSizeLaysOutSeparators': WHATEVER THE INPUT: true; the input reads as it did. -/
def fnJSONFrameSizeLaysOutSeparatorsSpec : ChangeSpec := { name := "fnJSONFrameSizeLaysOutSeparators", fn := fun _ => fun
  | [d1, d2] => { results := [.lit (.bool true)], args := [d1, d2] }
  | _ => none }
def fnJSONFrameSizeLaysOutSeparatorsRow : OpenClaim := { program := "qxb6604553a", sum := "b33e766395f5356197db72d56d553a0e4d4d6ddedd4a8e10cd773ad83708fdd5", func := "example.com/hermod/hermod/zzlaws_internal_protocol_b1.FnJSONFrameSizeLaysOutSeparators", spec := "fnJSONFrameSizeLaysOutSeparators", apart := false }
def FnJSONFrameSizeLaysOutSeparatorsSaid : Prop := fnJSONFrameSizeLaysOutSeparatorsRow.holds Try.pinned (OpenSpec.ofChange fnJSONFrameSizeLaysOutSeparatorsSpec)

/-- ITS FALSE NEIGHBOUR: 'it returns false'. Refute it at one input. -/
def fnJSONFrameSizeLaysOutSeparatorsWrong : ChangeSpec := { name := "fnJSONFrameSizeLaysOutSeparators", fn := fun _ => fun
  | [d1, d2] => { results := [.lit (.bool false)], args := [d1, d2] }
  | _ => none }
def FnJSONFrameSizeLaysOutSeparatorsWrongFalsely : Prop := fnJSONFrameSizeLaysOutSeparatorsRow.holds Try.pinned (OpenSpec.ofChange fnJSONFrameSizeLaysOutSeparatorsWrong)

/-- 'zzlaws_internal_protocol_b1.FnJSONFrameSizeJoinsFrames': WHATEVER THE INPUT: true; the input reads as it did. -/
def fnJSONFrameSizeJoinsFramesSpec : ChangeSpec := { name := "fnJSONFrameSizeJoinsFrames", fn := fun _ => fun
  | [d1, d2, d3, d4] => { results := [.lit (.bool true)], args := [d1, d2, d3, d4] }
  | _ => none }
def fnJSONFrameSizeJoinsFramesRow : OpenClaim := { program := "qxb6604553a", sum := "b33e766395f5356197db72d56d553a0e4d4d6ddedd4a8e10cd773ad83708fdd5", func := "example.com/hermod/hermod/zzlaws_internal_protocol_b1.FnJSONFrameSizeJoinsFrames", spec := "fnJSONFrameSizeJoinsFrames", apart := false }
def FnJSONFrameSizeJoinsFramesSaid : Prop := fnJSONFrameSizeJoinsFramesRow.holds Try.pinned (OpenSpec.ofChange fnJSONFrameSizeJoinsFramesSpec)

/-- ITS FALSE NEIGHBOUR: 'it returns false'. Refute it at one input. -/
def fnJSONFrameSizeJoinsFramesWrong : ChangeSpec := { name := "fnJSONFrameSizeJoinsFrames", fn := fun _ => fun
  | [d1, d2, d3, d4] => { results := [.lit (.bool false)], args := [d1, d2, d3, d4] }
  | _ => none }
def FnJSONFrameSizeJoinsFramesWrongFalsely : Prop := fnJSONFrameSizeJoinsFramesRow.holds Try.pinned (OpenSpec.ofChange fnJSONFrameSizeJoinsFramesWrong)

end Rows
end Go.Proofs.Qxb6604553a
