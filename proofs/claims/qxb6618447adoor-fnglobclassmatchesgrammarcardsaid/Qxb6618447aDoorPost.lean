/-
  WHAT BOTH SIDES OF THE LAW HAND BACK, SAID ONCE; rows of bytes read as a string.
-/
import Derived.Test.Qxb6618447aDoorHex
import Derived.Test.Qxb6618447aDoorEven
namespace Go.Proofs.Qxb6618447aDoor.Glob
open Go Go.RowKit
open Go.WideShapes (add_plain)

/-- The three results are what the grammar answers at i. -/
def Said (p : Nat → Int) (n i : Nat) (e : Ending) : Prop := ∃ (A : Int) (S : List UInt8) (ok : Bool), e = .returned (.tuple #[.int .i64 A, .string ⟨S.toArray⟩, .bool ok]) ∧ Plain.Ans p n (Plain.jOf p n i) (Plain.negOf p n i) A S ok

/-- The same, by the place behind the '!' and the sign. -/
def SaidAt (p : Nat → Int) (n j : Nat) (neg : List UInt8) (e : Ending) : Prop := ∃ (A : Int) (S : List UInt8) (ok : Bool), e = .returned (.tuple #[.int .i64 A, .string ⟨S.toArray⟩, .bool ok]) ∧ Plain.Ans p n j neg A S ok

theorem said_neg {p : Nat → Int} {n i : Nat} (h : i < n) (h' : p i = 33) {e : Ending} (hs : SaidAt p n (i + 1) [94] e) : Said p n i e := by
  obtain ⟨A, S, ok, h1, h2⟩ := hs
  refine ⟨A, S, ok, h1, ?_⟩
  unfold Plain.jOf Plain.negOf
  rw [if_pos ⟨h, h'⟩, if_pos ⟨h, h'⟩]
  exact h2
theorem said_pos {p : Nat → Int} {n i : Nat} (h : ¬ (i < n ∧ p i = 33)) {e : Ending} (hs : SaidAt p n i [] e) : Said p n i e := by
  obtain ⟨A, S, ok, h1, h2⟩ := hs
  refine ⟨A, S, ok, h1, ?_⟩
  unfold Plain.jOf Plain.negOf
  rw [if_neg h, if_neg h]
  exact h2

section
variable {p : Nat → Int} {n j : Nat} {neg : List UInt8}
theorem said_range (h1 : Plain.rng p n j) (h2 : Plain.rngOk p n j) {S : List UInt8} (hS : S = [91] ++ neg ++ (Plain.point (p j) ++ ([45] ++ (Plain.point (p (j + 2)) ++ [93])))) : SaidAt p n j neg (.returned (.tuple #[.int .i64 ((j : Int) + 3), .string ⟨S.toArray⟩, .bool true])) :=
  ⟨_, _, _, rfl, .inl ⟨h1, h2, rfl, hS, rfl⟩⟩
theorem said_norange (h1 : Plain.rng p n j) (h2 : ¬ Plain.rngOk p n j) : SaidAt p n j neg (.returned (.tuple #[.int .i64 0, .string { data := #[] }, .bool false])) :=
  ⟨0, [], false, rfl, .inr (.inl ⟨h1, h2, rfl, rfl, rfl⟩)⟩
theorem said_list (h1 : ¬ Plain.rng p n j) {e : Nat} (h2 : j < e) (h3 : e < n) (h4 : Plain.term p j e) (h5 : Plain.clean p j e) {S : List UInt8} (hS : S = [91] ++ neg ++ (Plain.points (Plain.mem p j e) ++ [93])) : SaidAt p n j neg (.returned (.tuple #[.int .i64 (e : Int), .string ⟨S.toArray⟩, .bool true])) :=
  ⟨_, _, _, rfl, .inr (.inr (.inl ⟨h1, ⟨e, h2, h3, h4, h5, rfl, hS⟩, rfl⟩))⟩
theorem said_nolist (h1 : ¬ Plain.rng p n j) (h2 : ∀ e, j < e → e < n → Plain.term p j e → ¬ Plain.clean p j e) : SaidAt p n j neg (.returned (.tuple #[.int .i64 0, .string { data := #[] }, .bool false])) :=
  ⟨0, [], false, rfl, .inr (.inr (.inr ⟨h1, h2, rfl, rfl, rfl⟩))⟩
end

/-- 'string(b)' of an own row of bytes. -/
theorem row_conv {B : Nat} {w : World} {v : Value} {l : List UInt8} (h : Row B w v l) (hne : l ≠ []) : (convert 26 9 v).run Tryd.prog w = .ok (.string ⟨l.toArray⟩) w := by
  rcases h.2 with ⟨_, h0⟩ | ⟨g, cap, cur, hv, _, hg, _⟩
  · exact absurd (List.length_eq_zero_iff.1 h0) hne
  · subst hv
    refine run_convert_bytes_back (P := Tryd.prog) w 26 9 5 ⟨g, 0, none⟩ cap l Tryd.underlying26 Tryd.underlying5 Tryd.underlying9 ?_
    intro j hj
    exact World.ownsRow.cells h (g := g) rfl j _ (by simp [Lib.byteCells, List.getElem?_eq_getElem hj])

theorem Sl.ixz {w : World} {a : Option Addr} {n c b off : Nat} {p : Nat → Int} (h : Sl w a n c b off p) (k : Nat) (hk : k < n) {z : Int} (hz : z = (k : Int)) (w' : World) :
    (Instr.indexAt 22 (.slice a n c) (.int .i64 z)).run Tryd.prog w' = .ok (.pointer (some ⟨b, off + k, none⟩)) w' := by
  subst hz; exact h.ix k w' hk

end Go.Proofs.Qxb6618447aDoor.Glob
