/-
  THE PROOF OF 'Rows.FnNoteUseKeepsFirstPositionSaid': the frame after the guide's own skeleton (proof-skeleton.mjs), turned to two slices of strings; the walk: Qxb6618409aWalk.lean.
-/
import Derived.Test.Qxb6618409aWalk
import Derived.WalkKit
import Derived.ProofKit
import Derived.OpenShut
import Derived.ShutString
import Derived.ChangeOld
import Derived.Below
import Derived.SliceStrings
namespace Go.Proofs.Qxb6618409a.fnNoteUseKeepsFirstPosition
open Go.ChangeShapes Go.WideShapes Go.ChangeAt Go.RowKit
open Go.ChangeMaps (open_string shut_string)
open Go.Proofs.Qxb6618409a.NoteUse (Sl)

theorem own : ownKnob Try.prog.godebug = none := by kernel_rfl
theorem laidOut : laidOutB Try.prog = true := by kernel_rfl

theorem idx22 (a : Addr) (n c k : Nat) (w' : World) (h : k < n) : (Instr.indexAt 22 (.slice (some a) n c) (.int .i64 (k : Int))).run Try.prog w' = .ok (.pointer (some (a.add k))) w' := by
  have h1 : (0 : Int) ≤ (k : Int) ∧ (k : Int) < (n : Int) := by omega
  rw [run_indexAt_slice _ _ _ _ _ _ _ Try.underlying22, if_pos h1]
  have h2 : (sizeOf (Try.prog.elem 22)).run Try.prog w' = .ok 1 w' := by kernel_rfl
  rw [h2]
  simp [Result.andThen]

theorem idx23 (a : Addr) (n c k : Nat) (w' : World) (h : k < n) : (Instr.indexAt 23 (.slice (some a) n c) (.int .i64 (k : Int))).run Try.prog w' = .ok (.pointer (some (a.add k))) w' := by
  have h1 : (0 : Int) ≤ (k : Int) ∧ (k : Int) < (n : Int) := by omega
  rw [run_indexAt_slice _ _ _ _ _ _ _ Try.underlying23, if_pos h1]
  have h2 : (sizeOf (Try.prog.elem 23)).run Try.prog w' = .ok 1 w' := by kernel_rfl
  rw [h2]
  simp [Result.andThen]

theorem sl_zero (t : TypeId) (w : World) (a : Option Addr) (c : Nat) (f : Nat → Value) : Sl t w a 0 c 0 0 f :=
  ⟨fun _ _ h => absurd h (Nat.not_lt_zero _), fun _ h => absurd h (Nat.not_lt_zero _)⟩

theorem sl_of {t : TypeId} (hidx : ∀ (a : Addr) (n c k : Nat) (w' : World), k < n → (Instr.indexAt t (.slice (some a) n c) (.int .i64 (k : Int))).run Try.prog w' = .ok (.pointer (some (a.add k))) w') {w : World} {a : Addr} {len : Nat} (cap : Nat) {f : Nat → Value}
    (hcell : ∀ i, i < len → w.cell? (a.add i) = some (f i)) : ∃ b off, Sl t w (some a) len cap b off f := by
  by_cases h0 : len = 0
  · subst h0; exact ⟨0, 0, sl_zero _ _ _ _ _⟩
  · obtain ⟨b, off, spot⟩ := a
    have hspot : spot = none := by simpa [Addr.add] using World.cell?_spot (hcell 0 (by omega))
    subst hspot
    refine ⟨b, off, fun k w' hk => ?_, fun k hk => ?_⟩
    · rw [hidx _ _ _ _ _ hk, add_plain]
    · have := hcell k hk
      rw [add_plain] at this
      exact this

theorem str_le {ss : List ByteArray} (h : ∀ s ∈ ss, s.size ≤ maxLen) (j : Nat) : (ss.getD j ByteArray.empty).size ≤ maxLen := by
  by_cases hk : j < ss.length
  · rw [List.getD, List.getElem?_eq_getElem hk]
    exact h _ (List.getElem_mem hk)
  · rw [List.getD, List.getElem?_eq_none (by omega)]
    exact Nat.zero_le _

theorem int_wf {zs : List Int} (h : ∀ n ∈ zs, (Lit.int .i64 n).wf = true) (j : Nat) : (Lit.int .i64 (zs.getD j 0)).wf = true := by
  by_cases hk : j < zs.length
  · rw [List.getD, List.getElem?_eq_getElem hk]
    exact h _ (List.getElem_mem hk)
  · rw [List.getD, List.getElem?_eq_none (by omega)]
    decide

theorem Try.cells9 : Try.prog.cellsOf 9 = 1 := by kernel_rfl
theorem Try.cells3 : Try.prog.cellsOf 3 = 1 := by kernel_rfl

section
variable {H : Type} {enc : TypeId × Value → H} {W : World}

theorem strings_of {a : Option Addr} {len cap : Nat} {d : DataW H} {p : List MemPlace} (h : DataW.Trod enc Try.prog W 0 (fun _ => true) true 22 (.slice a len cap) d p) :
    ∃ (b off : Nat) (K : Nat → ByteArray), Sl 22 W a len cap b off (fun j => .string (K j)) ∧ ∀ j, (K j).size ≤ maxLen := by
  obtain ⟨fuel, hf⟩ := h
  rcases open_strings Try.underlying22 Try.underlying9 Try.cells9 hf with ⟨hcs, _⟩ | ⟨x, l, c, ss, hcs, _, hl, _, hz, _, hcell, hws⟩
  · simp [Value.cells] at hcs
    obtain ⟨rfl, rfl, rfl⟩ := hcs
    exact ⟨0, 0, fun _ => ByteArray.empty, sl_zero _ _ _ _ _, fun _ => Nat.zero_le _⟩
  · simp [Value.cells] at hcs
    obtain ⟨rfl, rfl, rfl⟩ := hcs
    simp only [if_true] at hz
    obtain ⟨b, off, hs⟩ := sl_of idx22 cap (f := fun j => .string (ss.getD j ByteArray.empty)) (fun i (hi : i < len) => hcell i (by omega))
    exact ⟨b, off, _, hs, str_le hws⟩

theorem ints_of {a : Option Addr} {len cap : Nat} {d : DataW H} {p : List MemPlace} (h : DataW.Trod enc Try.prog W 0 (fun _ => true) true 23 (.slice a len cap) d p) :
    ∃ (b off : Nat) (V : Nat → Int), Sl 23 W a len cap b off (fun j => .int .i64 (V j)) ∧ ∀ j, (Lit.int .i64 (V j)).wf = true := by
  obtain ⟨fuel, hf⟩ := h
  rcases open_ints Try.underlying23 Try.underlying3 Try.cells3 hf with ⟨hcs, _⟩ | ⟨x, l, c, zs, hcs, _, hl, _, hz, _, hcell, hwz⟩
  · simp [Value.cells] at hcs
    obtain ⟨rfl, rfl, rfl⟩ := hcs
    exact ⟨0, 0, fun _ => 0, sl_zero _ _ _ _ _, fun _ => by show (Lit.int .i64 0).wf = true; decide⟩
  · simp [Value.cells] at hcs
    obtain ⟨rfl, rfl, rfl⟩ := hcs
    simp only [if_true] at hz
    obtain ⟨b, off, hs⟩ := sl_of idx23 cap (f := fun j => .int .i64 (zs.getD j 0)) (fun i (hi : i < len) => hcell i (by omega))
    exact ⟨b, off, _, hs, int_wf hwz⟩
end

set_option maxRecDepth 100000 in
theorem lifted (os : Os) (started : os.Started) (H : Type) (enc : TypeId × Value → H) :
    ReturnsInHanded {} Try.checked os 3 .any (Rows.fnNoteUseKeepsFirstPositionSpec.pre6 enc Try.prog Try.f3 Rows.fnNoteUseKeepsFirstPositionRow.domain false) (Rows.fnNoteUseKeepsFirstPositionSpec.post enc Try.prog Try.f3 false true false false) := by
  refine returnsInHanded_of_change (C := Try.checked) own started (by kernel_rfl) Try.func3
    (ChangeSpec.witness6 (enc := enc) (C := Try.checked) false ⟨#[], #[.slice none 0 0, .slice none 0 0, .slice none 0 0, .slice none 0 0], []⟩ 8 (by kernel_rfl) (by kernel_rfl) (by kernel_rfl) (by kernel_rfl)) ?_
  intro W base args ds gs before hval0 hW hcnd _
  have hval : ∀ (j : Nat) t v, Try.f3.params[j]? = some t → args[j]? = some v → Value.okWide Try.prog W .any base t v := hval0
  have hW' := hW
  obtain ⟨p, q, hA0, hV, rfl, hfz, hnd⟩ := hW
  have hA : DataW.TrodAll enc Try.prog W 0 (fun _ => true) true Try.f3.params.toList args.toList ds p := hA0
  rw [Try.params3] at hA hval
  obtain ⟨v0, vs0, d0, ds0, p0, q0, hargs, rfl, rfl, h0, r0⟩ := trodAll_cons hA
  obtain ⟨v1, vs1, d1, ds1, p1, q1, rfl, rfl, rfl, h1, r1⟩ := trodAll_cons r0
  obtain ⟨v2, vs2, d2, ds2, p2, q2, rfl, rfl, rfl, h2, r2⟩ := trodAll_cons r1
  obtain ⟨v3, vs3, d3, ds3, p3, q3, rfl, rfl, rfl, h3, r3⟩ := trodAll_cons r2
  obtain ⟨rfl, rfl, rfl⟩ := trodAll_nil r3
  obtain rfl : args = #[v0, v1, v2, v3] := by cases args; simp_all
  obtain ⟨rfl, rfl⟩ := trodVars_none hV
  obtain ⟨a0, len0, cap0, rfl⟩ := okWide_slice Try.underlying22 (hval 0 22 v0 rfl rfl)
  have lt0 : ∀ x ∈ p0, x.block < W.heap.size := by obtain ⟨m, hm⟩ := h0; exact DataW.trod_lt m _ _ _ hm
  obtain ⟨b0, o0, K, s0, f0⟩ := strings_of h0
  obtain ⟨a1, len1, cap1, rfl⟩ := okWide_slice Try.underlying23 (hval 1 23 v1 rfl rfl)
  have lt1 : ∀ x ∈ p1, x.block < W.heap.size := by obtain ⟨m, hm⟩ := h1; exact DataW.trod_lt m _ _ _ hm
  obtain ⟨b1, o1, V, s1, f1⟩ := ints_of h1
  obtain ⟨a2, len2, cap2, rfl⟩ := okWide_slice Try.underlying22 (hval 2 22 v2 rfl rfl)
  have lt2 : ∀ x ∈ p2, x.block < W.heap.size := by obtain ⟨m, hm⟩ := h2; exact DataW.trod_lt m _ _ _ hm
  obtain ⟨b2, o2, T, s2, f2⟩ := strings_of h2
  obtain ⟨a3, len3, cap3, rfl⟩ := okWide_slice Try.underlying23 (hval 3 23 v3 rfl rfl)
  have lt3 : ∀ x ∈ p3, x.block < W.heap.size := by obtain ⟨m, hm⟩ := h3; exact DataW.trod_lt m _ _ _ hm
  obtain ⟨b3, o3, P, s3, f3⟩ := ints_of h3
  clear hA0 hval0
  refine (NoteUse.walk a0 a1 a2 a3 len0 cap0 b0 o0 len1 cap1 b1 o1 len2 cap2 b2 o2 len3 cap3 b3 o3 K T V P W s0 s1 s2 s3 f0 f2 f1 f3).mono fun e W' ⟨he, bel⟩ => ?_
  subst he
  exact ⟨_, rfl, _, _, _, [], _, [], hW', trodAll_mk1 (shut_bool Try.underlying4 _), (trodAll_cons_mk (Below.trod laidOut (by kernel_rfl) (of_decide_eq_true (by kernel_rfl)) h0 bel lt0) (trodAll_cons_mk (Below.trod laidOut (by kernel_rfl) (of_decide_eq_true (by kernel_rfl)) h1 bel lt1) (trodAll_cons_mk (Below.trod laidOut (by kernel_rfl) (of_decide_eq_true (by kernel_rfl)) h2 bel lt2) (trodAll_cons_mk (Below.trod laidOut (by kernel_rfl) (of_decide_eq_true (by kernel_rfl)) h3 bel lt3) trodAll_mk0)))), rfl, bel.frame _, fun h => by cases h⟩

theorem over : Rows.fnNoteUseKeepsFirstPositionRow.holds Try.pinned (OpenSpec.ofChange Rows.fnNoteUseKeepsFirstPositionSpec) :=
  OpenClaim.holds_of_wide 3 Try.f3 rfl rfl rfl rfl rfl rfl rfl ⟨rfl, rfl, rfl, rfl, rfl⟩ rfl rfl rfl rfl rfl (by kernel_rfl) Try.func3 (by kernel_rfl)
    (of_decide_eq_true (by kernel_rfl)) (by unfold Func.isWrapper; first | (rw [if_pos (by decide +kernel)]; kernel_rfl) | (rw [if_neg (by decide +kernel)]; exact ⟨rfl, rfl⟩))
    (fun os started H enc _ => lifted os started H enc)

/-- THE STATEMENT -/
theorem proved : Rows.FnNoteUseKeepsFirstPositionSaid := over
#print axioms proved
end Go.Proofs.Qxb6618409a.fnNoteUseKeepsFirstPosition
