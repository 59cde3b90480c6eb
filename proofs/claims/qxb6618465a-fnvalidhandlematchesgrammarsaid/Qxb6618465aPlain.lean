/-
  The tag handle: the plain predicates (no Go in sight). q: the bytes; n: how many.
-/
namespace Go.Proofs.Qxb6618465a.Plain

/-- A letter, a digit, '_' or '-'. -/
def word (c : Nat) : Bool := decide ((97 ≤ c ∧ c ≤ 122) ∨ (65 ≤ c ∧ c ≤ 90) ∨ (48 ≤ c ∧ c ≤ 57) ∨ c = 95 ∨ c = 45)

theorem word_iff {c : Nat} : word c = true ↔ ((97 ≤ c ∧ c ≤ 122) ∨ (65 ≤ c ∧ c ≤ 90) ∨ (48 ≤ c ∧ c ≤ 57) ∨ c = 95 ∨ c = 45) := by simp [word]
theorem word_33 : word 33 = false := by decide

theorem or32 : ∀ c : Fin 256, decide (97 ≤ (c.val ||| 32) ∧ (c.val ||| 32) ≤ 122) = decide ((97 ≤ c.val ∧ c.val ≤ 122) ∨ (65 ≤ c.val ∧ c.val ≤ 90)) := by decide +kernel
theorem letter_iff {c : Nat} (hc : c < 256) : (97 ≤ (c ||| 32) ∧ (c ||| 32) ≤ 122) ↔ ((97 ≤ c ∧ c ≤ 122) ∨ (65 ≤ c ∧ c ≤ 90)) := by
  exact decide_eq_decide.1 (or32 ⟨c, hc⟩)

/-- Is it a handle? -/
def Valid (q : Nat → Nat) (n : Nat) : Prop := (n = 1 ∧ q 0 = 33) ∨ (2 ≤ n ∧ q 0 = 33 ∧ q (n - 1) = 33 ∧ ∀ k, 1 ≤ k → k < n - 1 → word (q k) = true)

/-- Where the automaton stands behind k bytes. -/
def At (q : Nat → Nat) (k st : Nat) : Prop :=
  (st = 0 ∧ k = 0) ∨ (st = 1 ∧ k = 1 ∧ q 0 = 33) ∨
  (st = 2 ∧ 2 ≤ k ∧ q 0 = 33 ∧ ∀ l, 1 ≤ l → l < k → word (q l) = true) ∨
  (st = 3 ∧ 2 ≤ k ∧ q 0 = 33 ∧ q (k - 1) = 33 ∧ ∀ l, 1 ≤ l → l < k - 1 → word (q l) = true)

theorem at_zero (q : Nat → Nat) : At q 0 0 := .inl ⟨rfl, rfl⟩
theorem at_lt {q : Nat → Nat} {k st : Nat} (h : At q k st) : st = 0 ∨ st = 1 ∨ st = 2 ∨ st = 3 := by
  rcases h with ⟨h, _⟩ | ⟨h, _⟩ | ⟨h, _⟩ | ⟨h, _⟩ <;> omega

theorem step_open {q : Nat → Nat} {k : Nat} (h : At q k 0) (hq : q k = 33) : At q (k + 1) 1 := by
  rcases h with ⟨_, rfl⟩ | ⟨h, _⟩ | ⟨h, _⟩ | ⟨h, _⟩
  · exact .inr (.inl ⟨rfl, rfl, hq⟩)
  all_goals omega
/-- In 1 and in 2 alike: the first byte is '!', all behind it are word bytes. -/
theorem at_12 {q : Nat → Nat} {k st : Nat} (h : At q k st) (hst : st = 1 ∨ st = 2) : 1 ≤ k ∧ q 0 = 33 ∧ ∀ l, 1 ≤ l → l < k → word (q l) = true := by
  rcases h with ⟨h, _⟩ | ⟨_, rfl, h⟩ | ⟨_, h1, h2, h3⟩ | ⟨h, _⟩
  · omega
  · exact ⟨Nat.le_refl _, h, fun l h1 h2 => by omega⟩
  · exact ⟨by omega, h2, h3⟩
  · omega
theorem step_close {q : Nat → Nat} {k st : Nat} (h : At q k st) (hst : st = 1 ∨ st = 2) (hq : q k = 33) : At q (k + 1) 3 := by
  obtain ⟨h1, h2, h3⟩ := at_12 h hst
  exact .inr (.inr (.inr ⟨rfl, by omega, h2, by simpa using hq, fun l l1 l2 => h3 l l1 (by omega)⟩))
theorem step_word {q : Nat → Nat} {k st : Nat} (h : At q k st) (hst : st = 1 ∨ st = 2) (hq : word (q k) = true) : At q (k + 1) 2 := by
  obtain ⟨h1, h2, h3⟩ := at_12 h hst
  refine .inr (.inr (.inl ⟨rfl, by omega, h2, fun l l1 l2 => ?_⟩))
  by_cases e : l = k
  · subst e; exact hq
  · exact h3 l l1 (by omega)

theorem dead_open {q : Nat → Nat} {n k : Nat} (h : At q k 0) (hk : k < n) (hq : q k ≠ 33) : ¬ Valid q n := by
  rcases h with ⟨_, rfl⟩ | ⟨h, _⟩ | ⟨h, _⟩ | ⟨h, _⟩
  · rintro (⟨_, h⟩ | ⟨_, h, _⟩) <;> exact hq h
  all_goals omega
theorem dead_mid {q : Nat → Nat} {n k st : Nat} (h : At q k st) (hst : st = 1 ∨ st = 2) (hk : k < n) (hq : q k ≠ 33) (hw : word (q k) = false) : ¬ Valid q n := by
  obtain ⟨h1, _, _⟩ := at_12 h hst
  rintro (⟨rfl, _⟩ | ⟨_, _, h2, h3⟩)
  · omega
  · by_cases e : k = n - 1
    · rw [← e] at h2; exact hq h2
    · rw [h3 k h1 (by omega)] at hw; cases hw
theorem dead_end {q : Nat → Nat} {n k : Nat} (h : At q k 3) (hk : k < n) : ¬ Valid q n := by
  rcases h with ⟨h, _⟩ | ⟨h, _⟩ | ⟨h, _⟩ | ⟨_, h1, h2, h3, _⟩
  · omega
  · omega
  · omega
  · rintro (⟨rfl, _⟩ | ⟨_, _, _, g3⟩)
    · omega
    · have := g3 (k - 1) (by omega) (by omega)
      rw [h3, word_33] at this; cases this
theorem end_0 {q : Nat → Nat} {n : Nat} (h : At q n 0) : ¬ Valid q n := by
  rcases h with ⟨_, rfl⟩ | ⟨h, _⟩ | ⟨h, _⟩ | ⟨h, _⟩
  · rintro (⟨h, _⟩ | ⟨h, _⟩) <;> omega
  all_goals omega
theorem end_1 {q : Nat → Nat} {n : Nat} (h : At q n 1) : Valid q n := by
  rcases h with ⟨h, _⟩ | ⟨_, rfl, h⟩ | ⟨h, _⟩ | ⟨h, _⟩
  · omega
  · exact .inl ⟨rfl, h⟩
  all_goals omega
theorem end_2 {q : Nat → Nat} {n : Nat} (h : At q n 2) : ¬ Valid q n := by
  rcases h with ⟨h, _⟩ | ⟨h, _⟩ | ⟨_, h1, h2, h3⟩ | ⟨h, _⟩
  · omega
  · omega
  · rintro (⟨rfl, _⟩ | ⟨_, _, g2, _⟩)
    · omega
    · have := h3 (n - 1) (by omega) (by omega)
      rw [g2, word_33] at this; cases this
  · omega
theorem end_3 {q : Nat → Nat} {n : Nat} (h : At q n 3) : Valid q n := by
  rcases h with ⟨h, _⟩ | ⟨h, _⟩ | ⟨h, _⟩ | ⟨_, h1, h2, h3, h4⟩
  · omega
  · omega
  · omega
  · exact .inr ⟨h1, h2, h3, h4⟩

end Go.Proofs.Qxb6618465a.Plain
