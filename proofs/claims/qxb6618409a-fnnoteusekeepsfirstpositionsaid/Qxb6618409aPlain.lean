/-
  FnNoteUseKeepsFirstPosition: THE PLAIN FUNCTIONS (no Go in sight), and what the table holds after the two fillings, key by key.
-/
import Derived.Maps.Views
import Derived.Maps.OwnSet
namespace Go.Proofs.Qxb6618409a.Plain
open Go Go.Maps

/-- Go's '==' on two strings, as the walk spells it. -/
def same (a b : ByteArray) : Bool := a.toList == b.toList

def kd (s : ByteArray) : Lit := .string s.data.toList

theorem same_iff {a b : ByteArray} : same a b = true ↔ kd a = kd b := by
  have ht : ∀ x : ByteArray, x.toList = x.data.toList := fun x => ByteArray.toList_eq x
  unfold same kd
  rw [ht, ht]
  simp

theorem same_refl (a : ByteArray) : same a a = true := same_iff.2 rfl
theorem same_false {a b : ByteArray} (h : same a b = false) : kd a ≠ kd b := fun e => by
  rw [same_iff.2 e] at h; cases h

/-- Does k stand among the first n? -/
def seen (K : Nat → ByteArray) : Nat → ByteArray → Bool
  | 0, _ => false
  | n + 1, k => seen K n k || same (K n) k

/-- The value of the last of the first n entries that is named k. -/
def lastI (K : Nat → ByteArray) (V : Nat → Int) : Nat → ByteArray → Option Int
  | 0, _ => none
  | n + 1, k => if same (K n) k then some (V n) else lastI K V n k

/-- The value of the first of the first n entries that is named k. -/
def firstT (T : Nat → ByteArray) (P : Nat → Int) : Nat → ByteArray → Option Int
  | 0, _ => none
  | n + 1, k => match firstT T P n k with
    | some v => some v
    | none => if same (T n) k then some (P n) else none

/-- What the law's own text expects at k. -/
def expd (K : Nat → ByteArray) (V : Nat → Int) (nk : Nat) (T : Nat → ByteArray) (P : Nat → Int) (nt : Nat) (k : ByteArray) : Option Int :=
  match lastI K V nk k with
  | some v => some v
  | none => firstT T P nt k

def cnt (K : Nat → ByteArray) : Nat → Nat
  | 0 => 0
  | n + 1 => cnt K n + if seen K n (K n) then 0 else 1

def cnt2 (K : Nat → ByteArray) (V : Nat → Int) (nk : Nat) (T : Nat → ByteArray) : Nat → Nat
  | 0 => 0
  | n + 1 => cnt2 K V nk T n + if (!(lastI K V nk (T n)).isSome && !seen T n (T n)) then 1 else 0

theorem cnt_le (K : Nat → ByteArray) : ∀ n, cnt K n ≤ n
  | 0 => Nat.le_refl _
  | n + 1 => by have := cnt_le K n; unfold cnt; split <;> omega
theorem cnt2_le (K : Nat → ByteArray) (V : Nat → Int) (nk : Nat) (T : Nat → ByteArray) : ∀ n, cnt2 K V nk T n ≤ n
  | 0 => Nat.le_refl _
  | n + 1 => by have := cnt2_le K V nk T n; unfold cnt2; split <;> omega

theorem lastI_seen (K : Nat → ByteArray) (V : Nat → Int) (k : ByteArray) : ∀ n, (lastI K V n k).isSome = seen K n k
  | 0 => rfl
  | n + 1 => by
    have := lastI_seen K V k n
    unfold lastI seen
    cases h : same (K n) k <;> simp [this]

theorem firstT_seen (T : Nat → ByteArray) (P : Nat → Int) (k : ByteArray) : ∀ n, (firstT T P n k).isSome = seen T n k
  | 0 => rfl
  | n + 1 => by
    have := firstT_seen T P k n
    unfold firstT seen
    cases h : firstT T P n k with
    | none => rw [h] at this; rw [← this]; cases h2 : same (T n) k <;> simp
    | some v => rw [h] at this; rw [← this]; simp

theorem seen_congr (K : Nat → ByteArray) {a b : ByteArray} (h : same a b = true) : ∀ n, seen K n a = seen K n b
  | 0 => rfl
  | n + 1 => by
    have := seen_congr K h n
    unfold seen
    rw [this]
    have e : same (K n) a = same (K n) b := by
      rw [Bool.eq_iff_iff, same_iff, same_iff, same_iff.1 h]
    rw [e]

theorem seen_at (K : Nat → ByteArray) {j : Nat} : ∀ n, j < n → seen K n (K j) = true
  | 0, h => absurd h (Nat.not_lt_zero _)
  | n + 1, h => by
    unfold seen
    by_cases e : j = n
    · subst e; simp [same_refl]
    · rw [seen_at K n (by omega : j < n)]; rfl

theorem seen_hit (K : Nat → ByteArray) {j : Nat} {k : ByteArray} (h : same (K j) k = true) (n : Nat) (hj : j < n) : seen K n k = true := by
  rw [← seen_congr K h n]; exact seen_at K n hj

theorem firstT_hit (T : Nat → ByteArray) (P : Nat → Int) {j : Nat} {k : ByteArray} (h : same (T j) k = true) (h0 : firstT T P j k = none) : ∀ n, j < n → firstT T P n k = some (P j)
  | 0, hj => absurd hj (Nat.not_lt_zero _)
  | n + 1, hj => by
    rw [firstT]
    by_cases e : j = n
    · subst e; rw [h0, h]; rfl
    · rw [firstT_hit T P h h0 n (by omega)]

section
variable {H : Type}

/-- The table after n of the initial entries. -/
def D1 (K : Nat → ByteArray) (V : Nat → Int) : Nat → DataW H
  | 0 => .map []
  | n + 1 => (D1 K V n).put (kd (K n)) (.lit (.int .i64 (V n)))

/-- The table after n of the uses. -/
def D2 (K : Nat → ByteArray) (V : Nat → Int) (nk : Nat) (T : Nat → ByteArray) (P : Nat → Int) : Nat → DataW H
  | 0 => D1 K V nk
  | n + 1 => if Maps.has (D2 K V nk T P n : DataW H) (kd (T n)) then D2 K V nk T P n else (D2 K V nk T P n).put (kd (T n)) (.lit (.int .i64 (P n)))

theorem key_kd (s : ByteArray) : WideAt.IsKeyLit (kd s) := trivial

theorem tidy_put {D : DataW H} (h : Tidy D) (k : Lit) (d : DataW H) (hk : WideAt.IsKeyLit k) : Tidy (D.put k d) := by
  obtain ⟨es, rfl, hp⟩ := h
  refine ⟨_, rfl, ?_⟩
  have hin : ∀ (x : Lit × DataW H) (l : List (Lit × DataW H)), (DataW.insert x l).Perm (x :: l) := by
    intro x l
    induction l with
    | nil => exact List.Perm.refl _
    | cons y r ih =>
      unfold DataW.insert
      split
      · exact List.Perm.refl _
      · exact (List.Perm.cons y ih).trans (List.Perm.swap x y r)
  refine ((hin _ _).pairwise_iff (fun {_ _} hne => Ne.symm hne)).2 ?_
  refine List.pairwise_cons.2 ⟨?_, hp.filter _⟩
  intro p hp' e
  have h2 : (!p.1.sameKey k) = true := (List.mem_filter.1 hp').2
  have e' : k = p.1 := e
  rw [← e', WideAt.sameKey_self hk] at h2
  cases h2

theorem D1_tidy (K : Nat → ByteArray) (V : Nat → Int) : ∀ n, Tidy (D1 K V n : DataW H)
  | 0 => tidy_empty
  | n + 1 => tidy_put (D1_tidy K V n) _ _ (key_kd _)

theorem D1_has (K : Nat → ByteArray) (V : Nat → Int) (k : ByteArray) : ∀ n, Maps.has (D1 K V n : DataW H) (kd k) = seen K n k
  | 0 => rfl
  | n + 1 => by
    unfold D1 seen
    cases h : same (K n) k
    · rw [has_put_other (fun e => same_false h e.symm), D1_has K V k n]; simp
    · rw [← same_iff.1 h, has_put_same (D1_tidy K V n).isMap (key_kd _)]; simp

theorem D1_at (K : Nat → ByteArray) (V : Nat → Int) (k : ByteArray) : ∀ n, (D1 K V n : DataW H).atKey (kd k) (.lit (.int .i64 0)) = .lit (.int .i64 ((lastI K V n k).getD 0))
  | 0 => rfl
  | n + 1 => by
    unfold D1 lastI
    cases h : same (K n) k
    · rw [atKey_put_other (fun e => same_false h e.symm), D1_at K V k n]; simp
    · rw [← same_iff.1 h, atKey_put_same (D1_tidy K V n).isMap (key_kd _)]; simp

theorem D1_size (K : Nat → ByteArray) (V : Nat → Int) : ∀ n, Maps.size (D1 K V n : DataW H) = cnt K n
  | 0 => rfl
  | n + 1 => by
    unfold D1 cnt
    rw [size_put (D1_tidy K V n), D1_has, D1_size K V n]
    cases seen K n (K n) <;> simp

theorem D2_tidy (K : Nat → ByteArray) (V : Nat → Int) (nk : Nat) (T : Nat → ByteArray) (P : Nat → Int) : ∀ n, Tidy (D2 K V nk T P n : DataW H)
  | 0 => D1_tidy K V nk
  | n + 1 => by
    unfold D2
    split
    · exact D2_tidy K V nk T P n
    · exact tidy_put (D2_tidy K V nk T P n) _ _ (key_kd _)

theorem D2_has (K : Nat → ByteArray) (V : Nat → Int) (nk : Nat) (T : Nat → ByteArray) (P : Nat → Int) (k : ByteArray) : ∀ n, Maps.has (D2 K V nk T P n : DataW H) (kd k) = (seen K nk k || seen T n k)
  | 0 => by show Maps.has (D1 K V nk : DataW H) (kd k) = _; rw [D1_has]; simp [seen]
  | n + 1 => by
    have ih := D2_has K V nk T P k n
    rw [show seen T (n + 1) k = (seen T n k || same (T n) k) from rfl]
    unfold D2
    split
    · rename_i h
      rw [ih]
      cases h2 : same (T n) k
      · simp
      · rw [same_iff.1 h2, ih] at h
        rw [h]
        revert h
        cases seen K nk k <;> cases seen T n k <;> simp
    · cases h2 : same (T n) k
      · rw [has_put_other (fun e => same_false h2 e.symm), ih]; simp
      · rw [← same_iff.1 h2, has_put_same (D2_tidy K V nk T P n).isMap (key_kd _)]; simp

theorem D2_at (K : Nat → ByteArray) (V : Nat → Int) (nk : Nat) (T : Nat → ByteArray) (P : Nat → Int) (k : ByteArray) : ∀ n, (D2 K V nk T P n : DataW H).atKey (kd k) (.lit (.int .i64 0)) = .lit (.int .i64 ((expd K V nk T P n k).getD 0))
  | 0 => by
    show (D1 K V nk : DataW H).atKey (kd k) _ = _
    rw [D1_at]
    unfold expd firstT
    cases lastI K V nk k <;> rfl
  | n + 1 => by
    have ih := D2_at K V nk T P k n
    have hh := D2_has (H := H) K V nk T P k n
    unfold D2
    cases h2 : same (T n) k
    · have e : expd K V nk T P (n + 1) k = expd K V nk T P n k := by
        unfold expd
        cases lastI K V nk k with
        | some v => rfl
        | none =>
          show firstT T P (n + 1) k = firstT T P n k
          rw [firstT, h2]
          cases firstT T P n k <;> rfl
      rw [e]
      split
      · exact ih
      · rw [atKey_put_other (fun e => same_false h2 e.symm), ih]
    · rw [same_iff.1 h2]
      split
      · rename_i h
        rw [hh] at h
        have e : expd K V nk T P (n + 1) k = expd K V nk T P n k := by
          unfold expd
          cases hl : lastI K V nk k with
          | some v => rfl
          | none =>
            show firstT T P (n + 1) k = firstT T P n k
            have h1 := lastI_seen K V k nk
            rw [hl] at h1
            rw [← h1, ← firstT_seen T P k n] at h
            rw [firstT]
            cases hf : firstT T P n k with
            | some v => rfl
            | none => rw [hf] at h; cases h
        rw [e]; exact ih
      · rename_i h
        rw [hh] at h
        rw [atKey_put_same (D2_tidy K V nk T P n).isMap (key_kd _)]
        have h1 := lastI_seen K V k nk
        have h3 := firstT_seen T P k n
        have e : expd K V nk T P (n + 1) k = some (P n) := by
          unfold expd
          cases hl : lastI K V nk k with
          | some v => rw [hl] at h1; rw [← h1] at h; simp at h
          | none =>
            show firstT T P (n + 1) k = some (P n)
            rw [firstT, h2]
            cases hf : firstT T P n k with
            | some v => rw [hf] at h3; rw [← h3] at h; simp at h
            | none => rfl
        rw [e]; rfl

theorem D2_size (K : Nat → ByteArray) (V : Nat → Int) (nk : Nat) (T : Nat → ByteArray) (P : Nat → Int) : ∀ n, Maps.size (D2 K V nk T P n : DataW H) = cnt K nk + cnt2 K V nk T n
  | 0 => by show Maps.size (D1 K V nk : DataW H) = _; rw [D1_size]; rfl
  | n + 1 => by
    have ih := D2_size K V nk T P n
    have hh := D2_has (H := H) K V nk T P (T n) n
    unfold D2 cnt2
    rw [lastI_seen]
    split
    · rename_i h
      rw [hh] at h
      rw [ih]
      revert h
      cases seen K nk (T n) <;> cases seen T n (T n) <;> simp
    · rename_i h
      rw [size_put (D2_tidy K V nk T P n), ih]
      rw [hh] at h ⊢
      revert h
      cases seen K nk (T n) <;> cases seen T n (T n) <;> simp <;> omega

end

end Go.Proofs.Qxb6618409a.Plain
