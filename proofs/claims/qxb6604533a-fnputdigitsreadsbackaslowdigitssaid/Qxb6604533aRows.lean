/-
  No cell of these rows narrows 'for every input' (looked for: loops, veiled, ifaces, maps, wideKeys, modest, calm, conditions, laid).
  DERIVED. THE GIVEN ROWS OF THIS SEAT. 1 by the template 'for every input the law returns true; each argument reads behind the call as it read before'; 0 by the template 'total and deterministic' (their statements: Qxb6604533aTotals.lean).
  GIVEN WITH THE SEED: the statements are not yours to turn. If you find one false, say at which input.
  Laid BY PROGRAM, IN A SANDBOX (cutbox-rows.mjs): the forced cells as the released guide's own fill.sh prints them over the translation 80decc2b3d04d95e… (all of the seat's roots in one cut). By AI agents, Wed Nov 11 2026. No macro, syntax, notation, axiom, sorry.
-/
import Derived.Test.Qxb6604533aChecked
import GoSem.Claim
import GoSem.ClaimJoined
import GoSem.ClaimMapViews
import Derived.JoinedTies
import Derived.KernelRfl
namespace Go.Proofs.Qxb6604533a
/- THE CELL 'sum', in the pinned program and in every row, IS THE sha256 OF THE DUMP (.gsa) THAT Qxb6604533aProg.lean LOADS. Nothing in Lean hashes anything: it is a label: what it is worth is what the hold of that sum in a sandbox is worth. -/
noncomputable def Try.pinned : Pinned := { name := "qxb6604533a", sum := "80decc2b3d04d95ebe39e3cee3ff4bb51d4efba0c4fe43d2f7fbe549d9deb7e7", checked := Try.checked }
namespace Rows
def none {H : Type} : Left H := { results := [], args := [] }

/-- 'zzlaws_root_b1.FnPutDigitsReadsBackAsLowDigits': WHATEVER THE INPUT: true; the input reads as it did. -/
def fnPutDigitsReadsBackAsLowDigitsSpec : ChangeSpec := { name := "fnPutDigitsReadsBackAsLowDigits", fn := fun _ => fun
  | [d1, d2] => { results := [.lit (.bool true)], args := [d1, d2] }
  | _ => none }
def fnPutDigitsReadsBackAsLowDigitsRow : OpenClaim := { program := "qxb6604533a", sum := "80decc2b3d04d95ebe39e3cee3ff4bb51d4efba0c4fe43d2f7fbe549d9deb7e7", func := "example.com/accruo/accruo/zzlaws_root_b1.FnPutDigitsReadsBackAsLowDigits", spec := "fnPutDigitsReadsBackAsLowDigits", apart := false }
def FnPutDigitsReadsBackAsLowDigitsSaid : Prop := fnPutDigitsReadsBackAsLowDigitsRow.holds Try.pinned (OpenSpec.ofChange fnPutDigitsReadsBackAsLowDigitsSpec)

/-- ITS FALSE NEIGHBOUR: 'it returns false'. Refute it at one input. -/
def fnPutDigitsReadsBackAsLowDigitsWrong : ChangeSpec := { name := "fnPutDigitsReadsBackAsLowDigits", fn := fun _ => fun
  | [d1, d2] => { results := [.lit (.bool false)], args := [d1, d2] }
  | _ => none }
def FnPutDigitsReadsBackAsLowDigitsWrongFalsely : Prop := fnPutDigitsReadsBackAsLowDigitsRow.holds Try.pinned (OpenSpec.ofChange fnPutDigitsReadsBackAsLowDigitsWrong)

end Rows
end Go.Proofs.Qxb6604533a
