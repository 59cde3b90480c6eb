/-
  No cell of these rows narrows 'for every input' (looked for: loops, veiled, ifaces, maps, wideKeys, modest, calm, conditions, laid).
  DERIVED. THE GIVEN ROWS OF THIS SEAT. 1 by the template 'for every input the law returns true; each argument reads behind the call as it read before'; 0 by the template 'total and deterministic' (their statements: Qxb6618409aTotals.lean).
  GIVEN WITH THE SEED: the statements are not yours to turn. If you find one false, say at which input.
  Laid BY PROGRAM, IN A SANDBOX (cutbox-rows.mjs): the forced cells as the released guide's own fill.sh prints them over the translation 175a070c8bfc4cd3… (all of the seat's roots in one cut). By AI agents, Wed Nov 11 2026. No macro, syntax, notation, axiom, sorry.
-/
import Derived.Test.Qxb6618409aChecked
import GoSem.Claim
import GoSem.ClaimJoined
import GoSem.ClaimMapViews
import Derived.JoinedTies
import Derived.KernelRfl
namespace Go.Proofs.Qxb6618409a
/- THE CELL 'sum', in the pinned program and in every row, IS THE sha256 OF THE DUMP (.gsa) THAT Qxb6618409aProg.lean LOADS. Nothing in Lean hashes anything: it is a label: what it is worth is what the hold of that sum in a sandbox is worth. -/
noncomputable def Try.pinned : Pinned := { name := "qxb6618409a", sum := "175a070c8bfc4cd336ac838938a5329097317269b75800e7906d3bf1474d9770", checked := Try.checked }
namespace Rows
def none {H : Type} : Left H := { results := [], args := [] }

/-- 'zzlaws_internal_sketch_b1.FnNoteUseKeepsFirstPosition': WHATEVER THE INPUT: true; the input reads as it did. -/
def fnNoteUseKeepsFirstPositionSpec : ChangeSpec := { name := "fnNoteUseKeepsFirstPosition", fn := fun _ => fun
  | [d1, d2, d3, d4] => { results := [.lit (.bool true)], args := [d1, d2, d3, d4] }
  | _ => none }
def fnNoteUseKeepsFirstPositionRow : OpenClaim := { program := "qxb6618409a", sum := "175a070c8bfc4cd336ac838938a5329097317269b75800e7906d3bf1474d9770", func := "example.com/boardsmith/boardsmith/zzlaws_internal_sketch_b1.FnNoteUseKeepsFirstPosition", spec := "fnNoteUseKeepsFirstPosition", apart := false }
def FnNoteUseKeepsFirstPositionSaid : Prop := fnNoteUseKeepsFirstPositionRow.holds Try.pinned (OpenSpec.ofChange fnNoteUseKeepsFirstPositionSpec)

/-- ITS FALSE NEIGHBOUR: 'it returns false'. Refute it at one input. -/
def fnNoteUseKeepsFirstPositionWrong : ChangeSpec := { name := "fnNoteUseKeepsFirstPosition", fn := fun _ => fun
  | [d1, d2, d3, d4] => { results := [.lit (.bool false)], args := [d1, d2, d3, d4] }
  | _ => none }
def FnNoteUseKeepsFirstPositionWrongFalsely : Prop := fnNoteUseKeepsFirstPositionRow.holds Try.pinned (OpenSpec.ofChange fnNoteUseKeepsFirstPositionWrong)

end Rows
end Go.Proofs.Qxb6618409a
