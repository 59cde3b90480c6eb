/-
  Rows of runes that the call itself makes; one rune's slice; a class's text.
-/
import Derived.Test.Qxb6618447aDoorPost
namespace Go.Proofs.Qxb6618447aDoor.Glob
open Go Go.RowKit
open Go.WideShapes (add_plain)

/-- Runes as cells. -/
def runeCells (l : List Int) : List Value := l.map (Value.int .i32)
theorem runeCells_length (l : List Int) : (runeCells l).length = l.length := by simp [runeCells]
theorem runeCells_append (a b : List Int) : runeCells (a ++ b) = runeCells a ++ runeCells b := by simp [runeCells]
theorem oneRunes (l : List Int) : ∀ u ∈ runeCells l, u.oneCell' = true := by
  intro u hu
  obtain ⟨b, _, rfl⟩ := List.mem_map.1 hu
  rfl

/-- v is the call's own row of runes, l. -/
def RowI (B : Nat) (w : World) (v : Value) (l : List Int) : Prop := w.ownsRow B 21 1 v l.length (runeCells l)
theorem rowI_nil (B : Nat) (w : World) : RowI B w (.slice none 0 0) [] := World.ownsRow_nil w B 21 1

theorem infoRune : (Tryd.prog.info? 21).map (fun i => (i.zero, i.size, i.bytes)) = some (some (.int .i32 0), 1, 4) := by kernel_rfl

theorem newsI (w : World) (x : Int) {T : TypeId} : ∀ j u, (runeCells [x])[j]? = some u → (w.alloc (.cells #[.int .i32 x] T)).cell? ((⟨w.heap.size, 0, none⟩ : Addr).add j) = some u := by
  intro j u hu
  rw [add_plain, Lib.cell_of_heap (heap_alloc_new w _), Nat.zero_add, ← hu]
  simp [runeCells]

theorem rowI_append {P : Program} {w : World} {ops : Array Oper} {rest : List Oper} {o : Oper} {a : Act} {Q : Exit → Act → World → Prop} (hP : P = Tryd.prog) (hgd : o.guard = none) (s x : Operand)
    (ho : o.op = .call { callee := .builtin .append, args := #[s, x], argTypes := #[22, 22] })
    (B : Nat) (v : Value) (l : List Int) (hs : a.eval s = v) (hown : RowI B w v l)
    (ad : Addr) (c : Nat) (r : Int) (hx : a.eval x = .slice (some ad) 1 c)
    (hnews : ∀ j u, (runeCells [r])[j]? = some u → w.cell? (ad.add j) = some u) (hlen : l.length ≤ 1048576) (hbase : B ≤ w.heap.size)
    (h : ∀ v' w', RowI B w' v' (l ++ [r]) → w.grownBy w' v.ownBlock → wpList P ops Q rest (a.put o.dst v') w') : wpList P ops Q (o :: rest) a w := by
  subst hP
  obtain ⟨i0, hi, hz0, hz1, hz2⟩ := info_parts infoRune
  refine wpList_append_own w hgd s x 22 ho B 21 i0 (.int .i32 0) 1 4 Tryd.underlying22 hi hz0 hz1 hz2 rfl (by decide) v l.length (runeCells l) hs hown ad 1 c (runeCells [r]) hx
    (by rw [runeCells_length]; rfl) hnews (oneRunes [r]) (by unfold maxLen; omega) (by omega) hbase ?_
  intro v' w' h1 h2 _
  refine h v' w' ?_ h2
  unfold RowI
  rw [runeCells_append, List.length_append]
  exact h1

/-- 'len(chars)'. -/
theorem rowI_len {B : Nat} {w : World} {v : Value} {l : List Int} (h : RowI B w v l) (ty : TypeId) (w' : World) : (Builtin.len_ #[22] ty #[v]).run Tryd.prog w' = .ok (.int .i64 (l.length : Int)) w' := by
  have key : ∃ ao cap, v = .slice ao l.length cap := by
    rcases h.2 with ⟨hv, h0⟩ | ⟨g, cap, cur, hv, _⟩
    · exact ⟨none, 0, by rw [hv, h0]⟩
    · exact ⟨_, _, hv⟩
  obtain ⟨ao, cap, rfl⟩ := key
  rw [run_len_slice w' 22 ty ao l.length cap (by kernel_rfl)]
  rfl

theorem idx22 (a : Addr) (n c k : Nat) (w' : World) (h : k < n) : (Instr.indexAt 22 (.slice (some a) n c) (.int .i64 (k : Int))).run Tryd.prog w' = .ok (.pointer (some (a.add k))) w' := by
  have h1 : (0 : Int) ≤ (k : Int) ∧ (k : Int) < (n : Int) := by omega
  rw [run_indexAt_slice _ _ _ _ _ _ _ Tryd.underlying22, if_pos h1]
  have h2 : (sizeOf (Tryd.prog.elem 22)).run Tryd.prog w' = .ok 1 w' := by kernel_rfl
  rw [h2]
  simp [Result.andThen]

/-- The row, as a slice that is read. -/
theorem rowI_read {B : Nat} {w : World} {v : Value} {l : List Int} (h : RowI B w v l) (hne : l ≠ []) (hlo : ∀ r ∈ l, -2147483648 ≤ r ∧ r ≤ 2147483647) :
    ∃ g cap, v = .slice (some ⟨g, 0, none⟩) l.length cap ∧ Sl w (some ⟨g, 0, none⟩) l.length cap g 0 (fun k => l.getD k 0) := by
  rcases h.2 with ⟨_, h0⟩ | ⟨g, cap, cur, hv, _⟩
  · exact absurd (List.length_eq_zero_iff.1 h0) hne
  · refine ⟨g, cap, hv, ?_, ?_, ?_, ?_⟩
    · intro k w' hk
      rw [idx22 _ _ _ _ _ hk, add_plain]
    · intro k hk
      subst hv
      have := World.ownsRow.cells h (g := g) rfl k (.int .i32 (l.getD k 0)) (by simp [runeCells, List.getD, List.getElem?_eq_getElem hk])
      rw [add_plain] at this
      exact this
    · intro k
      by_cases hk : k < l.length
      · rw [List.getD, List.getElem?_eq_getElem hk]; exact (hlo _ (List.getElem_mem hk)).1
      · rw [List.getD, List.getElem?_eq_none (by omega)]; decide
    · intro k
      by_cases hk : k < l.length
      · rw [List.getD, List.getElem?_eq_getElem hk]; exact (hlo _ (List.getElem_mem hk)).2
      · rw [List.getD, List.getElem?_eq_none (by omega)]; decide

theorem upto_getD (l : List Int) : ∀ k, k ≤ l.length → upto (fun k => l.getD k 0) k = l.take k
  | 0, _ => by simp [upto]
  | k + 1, h => by
    rw [upto, upto_getD l k (by omega), List.take_succ_eq_append_getElem (by omega)]
    simp [List.getD, List.getElem?_eq_getElem (show k < l.length by omega)]
theorem upto_all (l : List Int) : upto (fun k => l.getD k 0) l.length = l := by
  rw [upto_getD l l.length (Nat.le_refl _), List.take_length]

/-- The slice of one rune out of the pattern. -/
def Sub (a : Option Addr) (n c b off : Nat) : Prop := ∀ lo, lo < n → ∃ c', ∀ (w' : World) (z z' : Int), z = (lo : Int) → z' = (lo : Int) + 1 →
  (Instr.sliceAt 22 (.slice a n c) (some (.int .i64 z)) (some (.int .i64 z')) none).run Tryd.prog w' = .ok (.slice (some ⟨b, off + lo, none⟩) 1 c') w' ∧
  (Instr.slice 22 (.slice a n c) (some (.int .i64 z)) (some (.int .i64 z')) none).run Tryd.prog w' = .ok (.slice (some ⟨b, off + lo, none⟩) 1 c') w'

theorem sl_one {w : World} {b o : Nat} {x : Int} (c : Nat) (hc : w.cell? ⟨b, o, none⟩ = some (.int .i32 x)) (h0 : -2147483648 ≤ x) (h1 : x ≤ 2147483647) : Sl w (some ⟨b, o, none⟩) 1 c b o (fun _ => x) := by
  refine ⟨fun k w' hk => ?_, fun k hk => ?_, fun _ => h0, fun _ => h1⟩
  · rw [idx22 _ _ _ _ _ hk, add_plain]
  · have : k = 0 := by omega
    subst this
    exact hc
theorem upto_one (x : Int) : upto (fun _ => x) 1 = [x] := rfl

/-- The mem's runes are the pattern's. -/
theorem mem_bounds {p : Nat → Int} (h0 : ∀ k, -2147483648 ≤ p k) (h1 : ∀ k, p k ≤ 2147483647) (lo : Nat) : ∀ k, ∀ r ∈ Plain.mem p lo k, -2147483648 ≤ r ∧ r ≤ 2147483647
  | 0, r, hr => by simp [Plain.mem] at hr
  | k + 1, r, hr => by
    rw [Plain.mem] at hr
    split at hr
    · simp at hr
    · split at hr
      · exact mem_bounds h0 h1 lo k r hr
      · rcases List.mem_append.1 hr with h | h
        · exact mem_bounds h0 h1 lo k r h
        · simp at h; subst h; exact ⟨h0 k, h1 k⟩

end Go.Proofs.Qxb6618447aDoor.Glob
