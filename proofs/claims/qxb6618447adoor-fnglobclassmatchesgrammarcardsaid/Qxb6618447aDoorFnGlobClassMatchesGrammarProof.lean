/-
  THE PROOF OF 'Rows.FnGlobClassMatchesGrammarCardSaid': the row (after the guide's frame for a listed table, Derived/Test/MapyProofs.lean), then the tied card by the builder's one call. The walk: Qxb6618447aDoorWalk.lean.
-/
import Derived.Test.Qxb6618447aDoorWalk
import Derived.Test.Qxb6618447aDoorTie
import Derived.Test.Qxb6618447aDoorCards
import Derived.ProofKit
import Derived.LaidMore
import Derived.OpenShut
import Derived.ChangeOld
import Derived.Stop.Joined
import Derived.Lib.LaidTab
import Derived.SevenTiedAt
namespace Go.Proofs.Qxb6618447aDoor.fnGlobClassMatchesGrammar
open Go Go.ChangeShapes Go.WideShapes Go.ChangeAt Go.RowKit
open Go.Proofs.Qxb6618447aDoor.Glob (Sl Tab idx22)

theorem own : ownKnob Tryd.prog.godebug = none := by kernel_rfl
theorem laidOut : laidOutB Tryd.prog = true := by kernel_rfl
theorem cells21 : Tryd.prog.cellsOf 21 = 1 := by kernel_rfl
theorem cells5 : Tryd.prog.cellsOf 5 = 1 := by kernel_rfl
theorem cells61 : Tryd.prog.cellsOf 61 = 64 := by kernel_rfl
theorem t64 : (Tryd.prog.globals[2]?).map (·.type) = some 61 := by kernel_rfl

/-- The row's own list. -/
def laid3 : List (String × DataW Unit) := Rows.fnGlobClassMatchesGrammarRow.laid

/-- The table's numbers. -/
def tab64 : List Int := [0, 1, 56, 2, 57, 49, 28, 3, 61, 58, 42, 50, 38, 29, 17, 4, 62, 47, 59, 36, 45, 43, 51, 22, 53, 39, 33, 30, 24, 18, 12, 5, 63, 55, 48, 27, 60, 41, 37, 16, 46, 35, 44, 21, 52, 32, 23, 11, 54, 26, 40, 15, 34, 20, 31, 10, 25, 14, 19, 9, 13, 8, 7, 6]
theorem tab64_is : (Rows.laid_math_bits_deBruijn64tab : DataW Unit) = Lib.tabData .u8 tab64 := by kernel_rfl

/-- WHAT THE CONDITION GIVES THE WALK: the one cell that is read. -/
theorem of_laid {W : World} (h : laidMetH Tryd.prog laid3 W) : W.cell? ⟨2, 15, none⟩ = some (.int .u8 4) := by
  rw [MakeChecks.laidMetH_plain _ _ _ (by kernel_rfl)] at h
  obtain ⟨ps, ⟨g0, t0, cs0, f0, p0, q0, hg0, ht0, hv0, hd0, ⟨g1, t1, cs1, f1, p1, q1, hg1, ht1, hv1, hd1, _⟩, _⟩, _, _⟩ := h
  obtain rfl : 2 = g1 := Option.some.inj ((show Tryd.prog.globalNamed _ = some 2 by kernel_rfl).symm.trans hg1)
  obtain rfl := Option.some.inj (t64.symm.trans ht1)
  rw [tab64_is] at hd1
  have hc := Lib.cells_of_tab Tryd.underlying61 Tryd.underlying5 cells5 cells61 hd1
  have hcell := World.var?_cell hg1 hv1 15
  obtain ⟨l⟩ := cs1
  simp only at hc
  subst hc
  simpa [tab64] using hcell

/-- The door's own heap meets the condition. -/
theorem door_met (os : Os) (args : Array Value) : laidMetH Tryd.prog laid3 ((World.doorLaid Tryd.prog 24 os).forCall (fun _ _ => 0) ⟨#[], args, []⟩).memory :=
  laidMetH_of_parts3 (fuel := 8) (laidMet_of_run' 8 (by kernel_rfl) (by kernel_rfl)) (by kernel_rfl) (by kernel_rfl)

theorem sl_some {W : World} {x : Addr} {n : Nat} (c : Nat) {zs : List Int} (hn : n ≤ zs.length) (hcell : ∀ i, i < zs.length → W.cell? (x.add i) = some (.int .i32 (zs.getD i 0))) (hwz : ∀ z ∈ zs, (Lit.int .i32 z).wf = true) :
    ∃ b off, Sl W (some x) n c b off (fun k => zs.getD k 0) ∧ (0 < n → some x = some (⟨b, off, none⟩ : Addr)) := by
  have hb : ∀ k, -2147483648 ≤ zs.getD k 0 ∧ zs.getD k 0 ≤ 2147483647 := by
    intro k
    by_cases hk : k < zs.length
    · rw [List.getD, List.getElem?_eq_getElem hk]
      exact bounds_i32 (hwz _ (List.getElem_mem hk))
    · rw [List.getD, List.getElem?_eq_none (by omega)]
      decide
  by_cases h0 : n = 0
  · subst h0
    exact ⟨0, 0, ⟨fun k _ hk => absurd hk (Nat.not_lt_zero _), fun k hk => absurd hk (Nat.not_lt_zero _), fun k => (hb k).1, fun k => (hb k).2⟩, fun h => absurd h (Nat.lt_irrefl _)⟩
  · obtain ⟨b, off, spot⟩ := x
    have hspot : spot = none := by simpa [Addr.add] using World.cell?_spot (hcell 0 (by omega))
    subst hspot
    refine ⟨b, off, ⟨fun k w' hk => ?_, fun k hk => ?_, fun k => (hb k).1, fun k => (hb k).2⟩, fun _ => rfl⟩
    · rw [idx22 _ _ _ _ _ hk, add_plain]
    · have := hcell k (by omega)
      rw [add_plain] at this
      exact this

set_option maxRecDepth 100000 in
theorem lifted (os : Os) (started : os.Started) (H : Type) (enc : TypeId × Value → H) :
    ReturnsInHanded {} Tryd.checked os 3 .any (fun w args => (Rows.fnGlobClassMatchesGrammarSpec.pre enc Tryd.prog Tryd.f3 [] false w args ∧ laidMetH Tryd.prog laid3 w) ∧ sizedMet enc Tryd.prog Tryd.f3 (OpenSpec.ofChange Rows.fnGlobClassMatchesGrammarSpec) false w args)
      (Rows.fnGlobClassMatchesGrammarSpec.post enc Tryd.prog Tryd.f3 false true false false) := by
  refine returnsInHanded_of_change_and (C := Tryd.checked) (X := fun w _ => laidMetH Tryd.prog laid3 w) (fun _ _ _ hh h => h.of_heap hh) own started (by kernel_rfl) Tryd.func3
    (ChangeSpec.witness_shaped (enc := enc) (C := Tryd.checked) (os := os) (X := fun w _ => laidMetH Tryd.prog laid3 w) false (World.doorLaid Tryd.prog 24 os) #[.slice none 0 0, .int .i64 0] 8 rfl (World.shaped_of_RefB (by kernel_rfl) (by kernel_rfl)) (by kernel_rfl) (by kernel_rfl) (by kernel_rfl) (door_met os _)) ?_
  intro W base args ds gs before hval0 hW _ _ hL _
  have hval : ∀ (j : Nat) t v, Tryd.f3.params[j]? = some t → args[j]? = some v → Value.okWide Tryd.prog W .any base t v := hval0
  have hW' := hW
  obtain ⟨p, q, hA0, hV, rfl, hfz, hnd⟩ := hW
  have hA : DataW.TrodAll enc Tryd.prog W 0 (fun _ => true) true Tryd.f3.params.toList args.toList ds p := hA0
  rw [Tryd.params3] at hA hval
  obtain ⟨v0, vs0, d0, ds0, p0, q0, hargs, rfl, rfl, h0, r0⟩ := trodAll_cons hA
  obtain ⟨v1, vs1, d1, ds1, p1, q1, rfl, rfl, rfl, h1, r1⟩ := trodAll_cons r0
  obtain ⟨rfl, rfl, rfl⟩ := trodAll_nil r1
  obtain rfl : args = #[v0, v1] := by cases args; simp_all
  obtain ⟨rfl, rfl⟩ := trodVars_none hV
  obtain ⟨a0, len0, cap0, rfl⟩ := okWide_slice Tryd.underlying22 (hval 0 22 v0 rfl rfl)
  obtain ⟨x1, rfl, rfl, rfl, w1⟩ := open_int Tryd.underlying3 (hval 1 3 v1 rfl rfl) h1
  have lt0 : ∀ x ∈ p0, x.block < W.heap.size := by obtain ⟨m, hm⟩ := h0; exact DataW.trod_lt m _ _ _ hm
  have hcell := of_laid hL
  have hT : Tab W := ⟨hcell, World.block_lt_of_cell? W ⟨2, 15, none⟩ hcell⟩
  obtain ⟨b, off, z, hs, ha, hnil⟩ : ∃ (b off : Nat) (z : Nat → Int), Sl W a0 len0 cap0 b off z ∧ (0 < len0 → a0 = some ⟨b, off, none⟩) ∧ (a0 = none → len0 = 0 ∧ cap0 = 0) := by
    obtain ⟨fuel, hf⟩ := h0
    rcases open_ints Tryd.underlying22 Tryd.underlying21 cells21 hf with ⟨hcs, _⟩ | ⟨x, l, c, zs, hcs, _, hl, _, hz, _, hcl, hwz⟩
    · simp [Value.cells] at hcs
      obtain ⟨rfl, rfl, rfl⟩ := hcs
      exact ⟨0, 0, fun _ => 0, ⟨fun k _ hk => absurd hk (Nat.not_lt_zero _), fun k hk => absurd hk (Nat.not_lt_zero _), fun _ => by decide, fun _ => by decide⟩, fun h => absurd h (Nat.lt_irrefl _), fun _ => ⟨rfl, rfl⟩⟩
    · simp [Value.cells] at hcs
      obtain ⟨rfl, rfl, rfl⟩ := hcs
      simp only [if_true] at hz
      obtain ⟨b, off, hs, ha⟩ := sl_some cap0 (n := len0) (by omega) hcl hwz
      exact ⟨b, off, _, hs, ha, fun h => by cases h⟩
  clear hA0 hval0
  refine (Glob.walk a0 len0 cap0 b off x1 z W hs ha hnil hT).mono fun e W' ⟨he, bel⟩ => ?_
  subst he
  exact ⟨_, rfl, _, _, _, [], _, [], hW', trodAll_mk1 (shut_bool Tryd.underlying4 _), (trodAll_cons_mk (Below.trod laidOut (by kernel_rfl) (of_decide_eq_true (by kernel_rfl)) h0 bel lt0) (trodAll_cons_mk (shut_int Tryd.underlying3 w1) trodAll_mk0)), rfl, bel.frame _, fun h => by cases h⟩

/-- The row. -/
theorem row_holds : Rows.FnGlobClassMatchesGrammarSaid :=
  OpenClaim.holds_of_wide 3 Tryd.f3 rfl rfl rfl rfl rfl rfl rfl ⟨rfl, rfl, rfl, rfl, rfl⟩ rfl rfl rfl rfl rfl (by kernel_rfl) Tryd.func3 (by kernel_rfl)
    (of_decide_eq_true (by kernel_rfl)) (by unfold Func.isWrapper; first | (rw [if_pos (by decide +kernel)]; kernel_rfl) | (rw [if_neg (by decide +kernel)]; exact ⟨rfl, rfl⟩))
    (fun os started H enc _ => lifted os started H enc)

/-- THE STATEMENT: the tied card. -/
theorem proved : Rows.FnGlobClassMatchesGrammarCardSaid :=
  Claim7.holds_tied_plain_at .later [] [.data, .data, .data] true Rows.fnGlobClassMatchesGrammarCard.stood.harness false
    row_holds (fun _ h => by cases h) (by kernel_rfl) (fun _ h => by cases h) fnGlobClassMatchesGrammar_row_tie rfl ⟨rfl, rfl⟩ (by kernel_rfl) rfl
    (fun f fn hf hfn => by
      obtain rfl : f = 3 := Option.some.inj ((show Tryd.prog.funcNamed Rows.fnGlobClassMatchesGrammarRow.func = some 3 by kernel_rfl).symm.trans hf) |>.symm
      obtain rfl : fn = Tryd.f3 := (Option.some.inj (Tryd.func3.symm.trans hfn)).symm
      exact ⟨by kernel_rfl, fun j t ht => by
        rw [Tryd.params3] at ht
        have hm : t ∈ [22, 3] := by simpa using Array.mem_of_getElem? ht
        have hall : ([22, 3].all fun u => !Tryd.prog.wantsStandIn u) = true := by kernel_rfl
        exact (show Tryd.prog.wantsStandIn t = false by simpa using List.all_eq_true.1 hall t hm)⟩)
    (by kernel_rfl)
#print axioms proved
end Go.Proofs.Qxb6618447aDoor.fnGlobClassMatchesGrammar
