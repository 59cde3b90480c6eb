/-
  No cell of these rows narrows 'for every input' (looked for: loops, veiled, ifaces, maps, wideKeys, modest, calm, conditions, laid).
  DERIVED. THE GIVEN ROWS OF THIS SEAT. 1 by the template 'for every input the law returns true; each argument reads behind the call as it read before'; 0 by the template 'total and deterministic' (their statements: Qxb6618465aTotals.lean).
  GIVEN WITH THE SEED: the statements are not yours to turn. If you find one false, say at which input.
  Laid BY PROGRAM, IN A SANDBOX (cutbox-rows.mjs): the forced cells as the released guide's own fill.sh prints them over the translation 82b53b0f523b7dcc… (all of the seat's roots in one cut). By AI agents, Wed Nov 11 2026. No macro, syntax, notation, axiom, sorry.
-/
import Derived.Test.Qxb6618465aChecked
import GoSem.Claim
import GoSem.ClaimJoined
import GoSem.ClaimMapViews
import Derived.JoinedTies
import Derived.KernelRfl
namespace Go.Proofs.Qxb6618465a
/- THE CELL 'sum', in the pinned program and in every row, IS THE sha256 OF THE DUMP (.gsa) THAT Qxb6618465aProg.lean LOADS. Nothing in Lean hashes anything: it is a label: what it is worth is what the hold of that sum in a sandbox is worth. -/
noncomputable def Try.pinned : Pinned := { name := "qxb6618465a", sum := "82b53b0f523b7dcc1dd929b2436dae8d90df31cebc12422abdaf2db9f950ca4f", checked := Try.checked }
namespace Rows
def none {H : Type} : Left H := { results := [], args := [] }

/-- 'zzlaws_yaml_b1.FnValidHandleMatchesGrammar': WHATEVER THE INPUT: true; the input reads as it did. -/
def fnValidHandleMatchesGrammarSpec : ChangeSpec := { name := "fnValidHandleMatchesGrammar", fn := fun _ => fun
  | [d] => { results := [.lit (.bool true)], args := [d] }
  | _ => none }
def fnValidHandleMatchesGrammarRow : OpenClaim := { program := "qxb6618465a", sum := "82b53b0f523b7dcc1dd929b2436dae8d90df31cebc12422abdaf2db9f950ca4f", func := "example.com/windlass/windlass/zzlaws_yaml_b1.FnValidHandleMatchesGrammar", spec := "fnValidHandleMatchesGrammar", apart := false }
def FnValidHandleMatchesGrammarSaid : Prop := fnValidHandleMatchesGrammarRow.holds Try.pinned (OpenSpec.ofChange fnValidHandleMatchesGrammarSpec)

/-- ITS FALSE NEIGHBOUR: 'it returns false'. Refute it at one input. -/
def fnValidHandleMatchesGrammarWrong : ChangeSpec := { name := "fnValidHandleMatchesGrammar", fn := fun _ => fun
  | [d] => { results := [.lit (.bool false)], args := [d] }
  | _ => none }
def FnValidHandleMatchesGrammarWrongFalsely : Prop := fnValidHandleMatchesGrammarRow.holds Try.pinned (OpenSpec.ofChange fnValidHandleMatchesGrammarWrong)

end Rows
end Go.Proofs.Qxb6618465a
