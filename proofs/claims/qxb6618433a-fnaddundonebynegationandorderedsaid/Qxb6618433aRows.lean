/-
  No cell of these rows narrows 'for every input' (looked for: loops, veiled, ifaces, maps, wideKeys, modest, calm, conditions, laid).
  DERIVED. THE GIVEN ROWS OF THIS SEAT. 2 by the template 'for every input the law returns true; each argument reads behind the call as it read before'; 0 by the template 'total and deterministic' (their statements: Qxb6618433aTotals.lean).
  GIVEN WITH THE SEED: the statements are not yours to turn. If you find one false, say at which input.
  Laid BY PROGRAM, IN A SANDBOX (cutbox-rows.mjs): the forced cells as the released guide's own fill.sh prints them over the translation 96a42c0dcca11130… (all of the seat's roots in one cut). By AI agents, Wed Nov 11 2026. No macro, syntax, notation, axiom, sorry.
-/
import Derived.Test.Qxb6618433aChecked
import GoSem.Claim
import GoSem.ClaimJoined
import GoSem.ClaimMapViews
import Derived.JoinedTies
import Derived.KernelRfl
namespace Go.Proofs.Qxb6618433a
/- THE CELL 'sum', in the pinned program and in every row, IS THE sha256 OF THE DUMP (.gsa) THAT Qxb6618433aProg.lean LOADS. Nothing in Lean hashes anything: it is a label: what it is worth is what the hold of that sum in a sandbox is worth. -/
noncomputable def Try.pinned : Pinned := { name := "qxb6618433a", sum := "96a42c0dcca1113062f44cde54fb19bc4e9b44441643a83fd540e3d9c576e9bf", checked := Try.checked }
namespace Rows
def none {H : Type} : Left H := { results := [], args := [] }

/-- 'zzlaws_value_b1.FnAddAgreesWithWideSumAndCommutes': WHATEVER THE INPUT: true; the input reads as it did. -/
def fnAddAgreesWithWideSumAndCommutesSpec : ChangeSpec := { name := "fnAddAgreesWithWideSumAndCommutes", fn := fun _ => fun
  | [d1, d2] => { results := [.lit (.bool true)], args := [d1, d2] }
  | _ => none }
def fnAddAgreesWithWideSumAndCommutesRow : OpenClaim := { program := "qxb6618433a", sum := "96a42c0dcca1113062f44cde54fb19bc4e9b44441643a83fd540e3d9c576e9bf", func := "example.com/stackloom/stackloom/zzlaws_value_b1.FnAddAgreesWithWideSumAndCommutes", spec := "fnAddAgreesWithWideSumAndCommutes", apart := false }
def FnAddAgreesWithWideSumAndCommutesSaid : Prop := fnAddAgreesWithWideSumAndCommutesRow.holds Try.pinned (OpenSpec.ofChange fnAddAgreesWithWideSumAndCommutesSpec)

/-- ITS FALSE NEIGHBOUR: 'it returns false'. Refute it at one input. -/
def fnAddAgreesWithWideSumAndCommutesWrong : ChangeSpec := { name := "fnAddAgreesWithWideSumAndCommutes", fn := fun _ => fun
  | [d1, d2] => { results := [.lit (.bool false)], args := [d1, d2] }
  | _ => none }
def FnAddAgreesWithWideSumAndCommutesWrongFalsely : Prop := fnAddAgreesWithWideSumAndCommutesRow.holds Try.pinned (OpenSpec.ofChange fnAddAgreesWithWideSumAndCommutesWrong)

/-- 'zzlaws_value_b1.FnAddUndoneByNegationAndOrdered': WHATEVER THE INPUT: true; the input reads as it did. -/
def fnAddUndoneByNegationAndOrderedSpec : ChangeSpec := { name := "fnAddUndoneByNegationAndOrdered", fn := fun _ => fun
  | [d1, d2] => { results := [.lit (.bool true)], args := [d1, d2] }
  | _ => none }
def fnAddUndoneByNegationAndOrderedRow : OpenClaim := { program := "qxb6618433a", sum := "96a42c0dcca1113062f44cde54fb19bc4e9b44441643a83fd540e3d9c576e9bf", func := "example.com/stackloom/stackloom/zzlaws_value_b1.FnAddUndoneByNegationAndOrdered", spec := "fnAddUndoneByNegationAndOrdered", apart := false }
def FnAddUndoneByNegationAndOrderedSaid : Prop := fnAddUndoneByNegationAndOrderedRow.holds Try.pinned (OpenSpec.ofChange fnAddUndoneByNegationAndOrderedSpec)

/-- ITS FALSE NEIGHBOUR: 'it returns false'. Refute it at one input. -/
def fnAddUndoneByNegationAndOrderedWrong : ChangeSpec := { name := "fnAddUndoneByNegationAndOrdered", fn := fun _ => fun
  | [d1, d2] => { results := [.lit (.bool false)], args := [d1, d2] }
  | _ => none }
def FnAddUndoneByNegationAndOrderedWrongFalsely : Prop := fnAddUndoneByNegationAndOrderedRow.holds Try.pinned (OpenSpec.ofChange fnAddUndoneByNegationAndOrderedWrong)

end Rows
end Go.Proofs.Qxb6618433a
