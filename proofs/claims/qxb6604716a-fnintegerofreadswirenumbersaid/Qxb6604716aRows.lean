/-
  No cell of these rows narrows 'for every input' (looked for: loops, veiled, ifaces, maps, wideKeys, modest, calm, conditions, laid).
  DERIVED. THE GIVEN ROWS OF THIS SEAT. 3 by the template 'for every input the law returns true; each argument reads behind the call as it read before'; 0 by the template 'total and deterministic' (their statements: Qxb6604716aTotals.lean).
  GIVEN WITH THE SEED: the statements are not yours to turn. If you find one false, say at which input.
  Laid BY PROGRAM, IN A SANDBOX (cutbox-rows.mjs): the forced cells as the released guide's own fill.sh prints them over the translation b2e5cc6cfc388507… (all of the seat's roots in one cut). By AI agents, Wed Nov 11 2026. No macro, syntax, notation, axiom, sorry.
-/
import Derived.Test.Qxb6604716aChecked
import GoSem.Claim
import GoSem.ClaimJoined
import GoSem.ClaimMapViews
import Derived.JoinedTies
import Derived.KernelRfl
namespace Go.Proofs.Qxb6604716a
/- THE CELL 'sum', in the pinned program and in every row, IS THE sha256 OF THE DUMP (.gsa) THAT Qxb6604716aProg.lean LOADS. Nothing in Lean hashes anything: it is a label: what it is worth is what the hold of that sum in a sandbox is worth. -/
noncomputable def Try.pinned : Pinned := { name := "qxb6604716a", sum := "b2e5cc6cfc388507fba84ad56e2fdb7d67028c6882190c3bb039509608515f09", checked := Try.checked }
namespace Rows
def none {H : Type} : Left H := { results := [], args := [] }

/-- 'zzlaws_root_b1.FnIntegerOfReadsWireNumber': WHATEVER THE INPUT: true; the input reads as it did. -/
def fnIntegerOfReadsWireNumberSpec : ChangeSpec := { name := "fnIntegerOfReadsWireNumber", fn := fun _ => fun
  | [d1, d2, d3] => { results := [.lit (.bool true)], args := [d1, d2, d3] }
  | _ => none }
def fnIntegerOfReadsWireNumberRow : OpenClaim := { program := "qxb6604716a", sum := "b2e5cc6cfc388507fba84ad56e2fdb7d67028c6882190c3bb039509608515f09", func := "example.com/tagwright/tagwright/zzlaws_root_b1.FnIntegerOfReadsWireNumber", spec := "fnIntegerOfReadsWireNumber", unfollowed := true, recurses := true, named := ["encoding/binary.LittleEndian", "encoding/binary.BigEndian"], apart := false }
def FnIntegerOfReadsWireNumberSaid : Prop := fnIntegerOfReadsWireNumberRow.holds Try.pinned (OpenSpec.ofChange fnIntegerOfReadsWireNumberSpec)

/-- ITS FALSE NEIGHBOUR: 'it returns false'. Refute it at one input. -/
def fnIntegerOfReadsWireNumberWrong : ChangeSpec := { name := "fnIntegerOfReadsWireNumber", fn := fun _ => fun
  | [d1, d2, d3] => { results := [.lit (.bool false)], args := [d1, d2, d3] }
  | _ => none }
def FnIntegerOfReadsWireNumberWrongFalsely : Prop := fnIntegerOfReadsWireNumberRow.holds Try.pinned (OpenSpec.ofChange fnIntegerOfReadsWireNumberWrong)

/-- 'zzlaws_root_b1.FnSealStructLaysLengthHead': WHATEVER THE INPUT: true; the input reads as it did. -/
def fnSealStructLaysLengthHeadSpec : ChangeSpec := { name := "fnSealStructLaysLengthHead", fn := fun _ => fun
  | [d1, d2, d3] => { results := [.lit (.bool true)], args := [d1, d2, d3] }
  | _ => none }
def fnSealStructLaysLengthHeadRow : OpenClaim := { program := "qxb6604716a", sum := "b2e5cc6cfc388507fba84ad56e2fdb7d67028c6882190c3bb039509608515f09", func := "example.com/tagwright/tagwright/zzlaws_root_b1.FnSealStructLaysLengthHead", spec := "fnSealStructLaysLengthHead", apart := false }
def FnSealStructLaysLengthHeadSaid : Prop := fnSealStructLaysLengthHeadRow.holds Try.pinned (OpenSpec.ofChange fnSealStructLaysLengthHeadSpec)

/-- ITS FALSE NEIGHBOUR: 'it returns false'. Refute it at one input. -/
def fnSealStructLaysLengthHeadWrong : ChangeSpec := { name := "fnSealStructLaysLengthHead", fn := fun _ => fun
  | [d1, d2, d3] => { results := [.lit (.bool false)], args := [d1, d2, d3] }
  | _ => none }
def FnSealStructLaysLengthHeadWrongFalsely : Prop := fnSealStructLaysLengthHeadRow.holds Try.pinned (OpenSpec.ofChange fnSealStructLaysLengthHeadWrong)

/-- 'zzlaws_root_b1.FnSealStructHeadReadsBack': WHATEVER THE INPUT: true; the input reads as it did. -/
def fnSealStructHeadReadsBackSpec : ChangeSpec := { name := "fnSealStructHeadReadsBack", fn := fun _ => fun
  | [d1, d2] => { results := [.lit (.bool true)], args := [d1, d2] }
  | _ => none }
def fnSealStructHeadReadsBackRow : OpenClaim := { program := "qxb6604716a", sum := "b2e5cc6cfc388507fba84ad56e2fdb7d67028c6882190c3bb039509608515f09", func := "example.com/tagwright/tagwright/zzlaws_root_b1.FnSealStructHeadReadsBack", spec := "fnSealStructHeadReadsBack", apart := false }
def FnSealStructHeadReadsBackSaid : Prop := fnSealStructHeadReadsBackRow.holds Try.pinned (OpenSpec.ofChange fnSealStructHeadReadsBackSpec)

/-- ITS FALSE NEIGHBOUR: 'it returns false'. Refute it at one input. -/
def fnSealStructHeadReadsBackWrong : ChangeSpec := { name := "fnSealStructHeadReadsBack", fn := fun _ => fun
  | [d1, d2] => { results := [.lit (.bool false)], args := [d1, d2] }
  | _ => none }
def FnSealStructHeadReadsBackWrongFalsely : Prop := fnSealStructHeadReadsBackRow.holds Try.pinned (OpenSpec.ofChange fnSealStructHeadReadsBackWrong)

end Rows
end Go.Proofs.Qxb6604716a
