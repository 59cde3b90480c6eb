/-
  FnGlobClassMatchesGrammar: THE WALK OF THE LAW ITSELF.
-/
import Derived.Test.Qxb6618447aDoorModel
import Derived.Test.Qxb6618447aDoorGlob
import Derived.Laws.CopyOwn
import Derived.WalkSpells
namespace Go.Proofs.Qxb6618447aDoor.Glob
open Go Go.RowKit
open Go.WideShapes (add_plain)

/-- The two answers are one: what the last line of the law compares. -/
theorem same_answer {p : Nat → Int} {n i : Nat} {A A' : Int} {S S' : List UInt8} {ok ok' : Bool} (h : Plain.Ans p n (Plain.jOf p n i) (Plain.negOf p n i) A S ok) (h' : Plain.Ans p n (Plain.jOf p n i) (Plain.negOf p n i) A' S' ok') : A = A' ∧ S = S' ∧ ok = ok' := Plain.ans_unique h h'

/-- The pattern's runes as cells. -/
def cellsOf (p : Nat → Int) (n : Nat) : List Value := (List.range n).map fun k => Value.int .i32 (p k)
theorem cellsOf_length (p : Nat → Int) (n : Nat) : (cellsOf p n).length = n := by simp [cellsOf]
theorem cellsOf_get (p : Nat → Int) (n k : Nat) (hk : k < n) : (cellsOf p n)[k]? = some (.int .i32 (p k)) := by simp [cellsOf, hk]
theorem cellsOf_one (p : Nat → Int) (n : Nat) : ∀ v ∈ cellsOf p n, v.oneCell' = true := by
  intro v hv
  obtain ⟨k, _, rfl⟩ := List.mem_map.1 hv
  rfl

theorem sl_of_block {w : World} {g n : Nat} {p : Nat → Int} {cur : List Value} (hg : w.heap[g]? = some (.cells (splice cur 0 (cellsOf p n)).toArray 21 (0, 0))) (h0 : ∀ k, -2147483648 ≤ p k) (h1 : ∀ k, p k ≤ 2147483647) :
    Sl w (some ⟨g, 0, none⟩) n n g 0 p := by
  refine ⟨fun k w' hk => ?_, fun k hk => ?_, h0, h1⟩
  · rw [idx22 _ _ _ _ _ hk, add_plain]
  · rw [Lib.cell_of_heap hg]
    have := cellsOf_get p n k hk
    simp [splice, List.getElem?_append_left (show k < (cellsOf p n).length by rw [cellsOf_length]; exact hk), this]

/-- Where the pattern is too long, or i out of it: true at once. -/
theorem walk_long (a : Option Addr) (n c : Nat) (i : Int) (w : World) (hn : 1048576 < n) :
    Calls Tryd.prog 3 #[.slice a n c, .int .i64 i] w fun e w' => e = .returned (.bool true) ∧ Below w.heap.size w w' := by
  go_enter Tryd.func3, Tryd.ntmps3
  go_wp2_with fail
  refine (bytes_no _ _ _ _ _ hn).mono ?_
  rintro e w' ⟨rfl, hw'⟩; subst w'
  go_wp2_with fail
  go_ret
  exact ⟨rfl, Below.refl _ _⟩
theorem walk_long2 (a : Option Addr) (n c : Nat) (i : Int) (w : World) (hn : n ≤ 1048576) (hn' : 4096 < n) :
    Calls Tryd.prog 3 #[.slice a n c, .int .i64 i] w fun e w' => e = .returned (.bool true) ∧ Below w.heap.size w w' := by
  go_enter Tryd.func3, Tryd.ntmps3
  go_wp2_with fail
  refine (bytes_yes _ _ _ _ _ hn).mono ?_
  rintro e w' ⟨rfl, hw'⟩; subst w'
  go_wp2_with fail
  go_ret
  exact ⟨rfl, Below.refl _ _⟩
theorem walk_neg (a : Option Addr) (n c : Nat) (i : Int) (w : World) (hn : n ≤ 4096) (hi : i < 0) :
    Calls Tryd.prog 3 #[.slice a n c, .int .i64 i] w fun e w' => e = .returned (.bool true) ∧ Below w.heap.size w w' := by
  go_enter Tryd.func3, Tryd.ntmps3
  go_wp2_with fail
  refine (bytes_yes _ _ _ _ _ (by omega)).mono ?_
  rintro e w' ⟨rfl, hw'⟩; subst w'
  go_wp2_with fail
  go_ret
  exact ⟨rfl, Below.refl _ _⟩
theorem walk_far (a : Option Addr) (n c : Nat) (i : Int) (w : World) (hn : n ≤ 4096) (hi : (n : Int) < i) :
    Calls Tryd.prog 3 #[.slice a n c, .int .i64 i] w fun e w' => e = .returned (.bool true) ∧ Below w.heap.size w w' := by
  go_enter Tryd.func3, Tryd.ntmps3
  go_wp2_with fail
  refine (bytes_yes _ _ _ _ _ (by omega)).mono ?_
  rintro e w' ⟨rfl, hw'⟩; subst w'
  go_wp2_with fail
  go_ret
  exact ⟨rfl, Below.refl _ _⟩

set_option maxHeartbeats 1000000 in
theorem walk_nil (p : Nat → Int) (w : World) (hs : Sl w none 0 0 0 0 p) (ht : Tab w) :
    Calls Tryd.prog 3 #[.slice none 0 0, .int .i64 0] w fun e w' => e = .returned (.bool true) ∧ Below w.heap.size w w' := by
  have hnn := run_neq_slice_nil_any (P := Tryd.prog) w 22 21 none 0 0 0 0 Tryd.underlying22
  have HM : Hid (Calls Tryd.prog 5 _ _ _) := model_any none 0 0 0 0 0 p w hs (by omega) (by omega)
  go_enter Tryd.func3, Tryd.ntmps3
  go_wp2_with fail
  refine (bytes_yes none 0 0 0 _ (by omega)).mono ?_
  rintro e w' ⟨rfl, hw'⟩; subst w'
  go_wp2_with fail
  refine HM.out.mono ?_
  rintro e w1 ⟨⟨A, S, ok, rfl, hA⟩, hb⟩
  have HA : Hid (Plain.Ans p 0 (Plain.jOf p 0 0) (Plain.negOf p 0 0) A S ok) := hA
  clear hA
  go_wp2_with fail
  refine (zzglob_any none 0 0 0 0 0 p w1 (hs.later hb) (fun h => by omega) (ht.later ht.2 hb) (by omega) (by omega)).mono ?_
  rintro e w2 ⟨⟨A', S', ok', rfl, hA'⟩, hb'⟩
  obtain ⟨rfl, rfl, rfl⟩ := same_answer HA.out hA'
  clear hA'
  go_wp2_with fail
  go_ret
  exact ⟨rfl, hb.trans (hb'.mono hb.size)⟩

theorem sizeRune : (Tryd.prog.info? 21).map (·.size) = some 1 := by kernel_rfl

set_option maxHeartbeats 2000000 in
theorem walk_some (ad : Addr) (n c b off i : Nat) (p : Nat → Int) (w : World) (hs : Sl w (some ad) n c b off p) (ha : 0 < n → ad = ⟨b, off, none⟩) (ht : Tab w) (hn : n ≤ 4096) (hi : i ≤ n) :
    Calls Tryd.prog 3 #[.slice (some ad) n c, .int .i64 i] w fun e w' => e = .returned (.bool true) ∧ Below w.heap.size w w' := by
  have hnn := run_neq_slice_nil_any (P := Tryd.prog) w 22 21 (some ad) n c 0 0 Tryd.underlying22
  obtain ⟨i0, hi0, hz0, hz1, hz2⟩ := info_parts infoRune
  go_enter Tryd.func3, Tryd.ntmps3
  go_wp2_with fail
  refine (bytes_yes _ _ _ _ _ (by omega)).mono ?_
  rintro e w' ⟨rfl, hw'⟩; subst w'
  go_wp2_with (at_make; refine wpList_make_full _ rfl _ _ 22 rfl w.heap.size 21 i0 (.int .i32 0) 1 Tryd.underlying22 hi0 hz0 hz1 _ _ _ _ n rfl rfl rfl rfl ?m1 ?m2 ?m3 ?_)
  case m1 => rw [hz2]; omega
  case m2 => unfold maxLen; omega
  case m3 => exact Nat.le_refl _
  intro w1 hown hgrow
  have B1 : Below w.heap.size w w1 := (Below.refl _ w).grown hgrow (Nat.le_refl _) (fun k hk => by cases hk)
  obtain ⟨cur, hcur, hcs⟩ : ∃ cur : List Value, w1.heap[w.heap.size]? = some (.cells cur.toArray 21 (0, 0)) ∧ cur.length = n := by
    rcases hown.2 with ⟨hv, _⟩ | ⟨g, cap, cur, hv, _, hg, _, _, hsz, _⟩
    · cases hv
    · simp only [Value.slice.injEq, Option.some.injEq, Addr.mk.injEq] at hv
      obtain ⟨⟨rfl, _, _⟩, _, rfl⟩ := hv
      exact ⟨cur.toList, by simpa using hg, by simpa using hsz⟩
  clear hown hgrow
  have S1 : Sl w1 (some ad) n c b off p := hs.later B1
  go_wp2_with (refine wpList_copy_splice rfl _ _ 22 22 rfl 21 Tryd.underlying22 sizeRune (some ⟨w.heap.size, 0, none⟩) (some ad) n n n c rfl rfl w.heap.size 0 cur 21 hcur (cellsOf p n) ?n1 ?n2 ?n3 (cellsOf_one p n) w.heap.size w B1 (Nat.le_refl _) ?_)
  case n1 => rw [cellsOf_length]; exact (Nat.min_self n).symm
  case n2 =>
    intro hpos
    rw [cellsOf_length] at hpos
    intro k v hv
    have hk : k < n := by
      have := (List.getElem?_eq_some_iff.1 hv).1
      rw [cellsOf_length] at this; exact this
    rw [cellsOf_get p n k hk] at hv
    rw [ha hpos, add_plain, ← hv]
    exact S1.cell k hk
  case n3 => rw [cellsOf_length, hcs]; omega
  intro w2 hg2 B2
  have S2 : Sl w2 (some ⟨w.heap.size, 0, none⟩) n n w.heap.size 0 p := sl_of_block hg2.out hs.lo hs.hi
  have T2 : Tab w2 := ht.later ht.2 B2
  have BW : Hid (Below w.heap.size w w2) := B2
  clear hg2 hcur hcs S1 B1 B2 hs
  go_wp2_with fail
  refine (model_any _ n n w.heap.size 0 i p w2 S2 hn hi).mono ?_
  rintro e w3 ⟨⟨A, S, ok, rfl, hA⟩, hb⟩
  have HA : Hid (Plain.Ans p n (Plain.jOf p n i) (Plain.negOf p n i) A S ok) := hA
  clear hA
  have S3 := S2.later hb
  have T3 : Tab w3 := T2.later T2.2 hb
  go_wp2_with fail
  refine (zzglob_any _ n n w.heap.size 0 i p w3 S3 (fun _ => ⟨rfl, Nat.le_refl _⟩) T3 hn hi).mono ?_
  rintro e w4 ⟨⟨A', S', ok', rfl, hA'⟩, hb'⟩
  obtain ⟨rfl, rfl, rfl⟩ := same_answer HA.out hA'
  clear hA'
  have BF : Hid (Below w.heap.size w w4) := (BW.out.trans (hb.mono BW.out.size)).trans (hb'.mono (Nat.le_trans BW.out.size hb.size))
  clear hb hb' S2 S3 T2 T3
  go_wp2_with fail
  go_ret
  exact ⟨rfl, BF.out⟩

/-- THE WALK: whatever the pattern and i. -/
theorem walk (a : Option Addr) (n c b off : Nat) (i : Int) (p : Nat → Int) (w : World) (hs : Sl w a n c b off p) (ha : 0 < n → a = some ⟨b, off, none⟩) (h0 : a = none → n = 0 ∧ c = 0) (ht : Tab w) :
    Calls Tryd.prog 3 #[.slice a n c, .int .i64 i] w fun e w' => e = .returned (.bool true) ∧ Below w.heap.size w w' := by
  by_cases hl : 1048576 < n
  · exact walk_long a n c i w hl
  by_cases hl2 : 4096 < n
  · exact walk_long2 a n c i w (by omega) hl2
  by_cases hi : i < 0
  · exact walk_neg a n c i w (by omega) hi
  by_cases hf : (n : Int) < i
  · exact walk_far a n c i w (by omega) hf
  obtain ⟨m, rfl⟩ := Int.eq_ofNat_of_zero_le (by omega : 0 ≤ i)
  cases a with
  | none =>
    obtain ⟨rfl, rfl⟩ := h0 rfl
    have hm : m = 0 := by omega
    subst hm
    exact walk_nil p w ⟨fun k _ hk => absurd hk (Nat.not_lt_zero _), fun k hk => absurd hk (Nat.not_lt_zero _), hs.lo, hs.hi⟩ ht
  | some ad => exact walk_some ad n c b off m p w hs (fun h => by have := ha h; simpa using this) ht (by omega) (by omega)

end Go.Proofs.Qxb6618447aDoor.Glob
