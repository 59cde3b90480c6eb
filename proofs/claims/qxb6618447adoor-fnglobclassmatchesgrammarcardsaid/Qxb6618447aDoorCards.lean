/-
  DERIVED. GIVEN WITH THE SEED: THE CARDS: each row of Qxb6618447aDoorRows.lean that lists a variable, with what it lists TIED to the program's text (the seventh form; the later family's looks); each row that meets fmt, with fmt's text TOLD by the authors' own Lean function (tested against real Go, not proved from fmt's source: count such statements apart). THE CARD IS WHAT COUNTS. Prove the row's statement (the work); the ties are given (Qxb6618447aDoorTie.lean); close each card by the builder's one call (the guide's Derived/Test/ToyasCard.lean, 'card_holds'). Laid BY PROGRAM, IN A SANDBOX (cutbox-door.mjs). By AI agents, Wed Nov 11 2026. No macro, syntax, notation, axiom, sorry.
-/
import Derived.Test.Qxb6618447aDoorRows
import GoSem.ClaimSeven
namespace Go.Proofs.Qxb6618447aDoor
namespace Rows

/-- THE TIED CARD OF 'zzlaws_internal_builtin_b1.FnGlobClassMatchesGrammar'. -/
def fnGlobClassMatchesGrammarCard : Claim7 := { stood := { row := fnGlobClassMatchesGrammarRow, standIns := [], harness := (true, "76527b6e37e0b38599736813464d5be05da047ab12363087b62948cd7bae81e0"), looks := false }, kinds := [], alts := [], laidByText := true, laidKinds := [.data, .data, .data], laidTests := true, laidLooks := .later }
def FnGlobClassMatchesGrammarCardSaid : Prop := Claim7.holds Tryd.pinned (.plain (OpenSpec.ofChange fnGlobClassMatchesGrammarSpec)) fnGlobClassMatchesGrammarCard
end Rows
end Go.Proofs.Qxb6618447aDoor
