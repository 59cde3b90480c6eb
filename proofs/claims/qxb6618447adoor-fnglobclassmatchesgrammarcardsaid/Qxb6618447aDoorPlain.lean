/-
  THE GLOB CLASS: THE PLAIN FUNCTIONS (no Go in sight): hexadecimal numerals; the members of a class; what the grammar answers, and that it answers one thing.
-/
namespace Go.Proofs.Qxb6618447aDoor.Plain

/-- One hexadecimal digit. -/
def dg (d : Nat) : UInt8 := if d < 10 then UInt8.ofNat (48 + d) else UInt8.ofNat (87 + d)

/-- The digits of u, at most f + 1 of them. -/
def hexF : Nat → Nat → List UInt8
  | 0, u => [dg (u % 16)]
  | f + 1, u => if u < 16 then [dg u] else hexF f (u / 16) ++ [dg (u % 16)]

/-- u in hexadecimal (u below 16 ^ 16). -/
def hexs (u : Nat) : List UInt8 := hexF 15 u

theorem hexF_fuel : ∀ f g u, u < 16 ^ (f + 1) → u < 16 ^ (g + 1) → hexF f u = hexF g u
  | 0, 0, _, _, _ => rfl
  | 0, g + 1, u, h, _ => by
    have h' : u < 16 := by simpa using h
    rw [hexF, hexF, if_pos h', Nat.mod_eq_of_lt h']
  | f + 1, 0, u, _, h => by
    have h' : u < 16 := by simpa using h
    rw [hexF, hexF, if_pos h', Nat.mod_eq_of_lt h']
  | f + 1, g + 1, u, h1, h2 => by
    rw [hexF, hexF]
    by_cases h : u < 16
    · rw [if_pos h, if_pos h]
    · rw [if_neg h, if_neg h, hexF_fuel f g (u / 16) (by rw [Nat.pow_succ] at h1; omega) (by rw [Nat.pow_succ] at h2; omega)]

theorem hexs_lt {u : Nat} (h : u < 16) : hexs u = [dg u] := by
  unfold hexs; rw [hexF, if_pos h]

theorem hexs_step {u : Nat} (h : 16 ≤ u) (hb : u < 18446744073709551616) : hexs u = hexs (u / 16) ++ [dg (u % 16)] := by
  unfold hexs
  rw [hexF, if_neg (by omega)]
  rw [hexF_fuel 14 15 (u / 16) (by omega) (by omega)]

theorem hexF_len : ∀ f u, (hexF f u).length ≤ f + 1
  | 0, _ => Nat.le_refl _
  | f + 1, u => by
    have := hexF_len f (u / 16)
    rw [hexF]
    split <;> simp <;> omega
theorem hexs_len (u : Nat) : (hexs u).length ≤ 16 := hexF_len 15 u
theorem hexF_ne : ∀ f u, hexF f u ≠ []
  | 0, _ => by simp [hexF]
  | f + 1, u => by rw [hexF]; split <;> simp
theorem hexs_ne (u : Nat) : hexs u ≠ [] := hexF_ne 15 u

/-- The sign of an int32, written. -/
def sign (r : Int) : List UInt8 := if r < 0 then [45] else []
/-- r in hexadecimal, signed. -/
def shex (r : Int) : List UInt8 := sign r ++ hexs r.natAbs
/-- One member. -/
def point (r : Int) : List UInt8 := [92, 120, 123] ++ (shex r ++ [125])
def points (l : List Int) : List UInt8 := l.flatMap point
theorem points_nil : points [] = [] := rfl
theorem points_snoc (l : List Int) (r : Int) : points (l ++ [r]) = points l ++ point r := by simp [points]
theorem shex_len (r : Int) : (shex r).length ≤ 17 := by
  unfold shex sign
  have := hexs_len r.natAbs
  split <;> simp <;> omega
theorem point_len (r : Int) : (point r).length ≤ 21 := by
  have := shex_len r
  unfold point
  simp; omega
theorem points_len (l : List Int) : (points l).length ≤ 21 * l.length := by
  induction l with
  | nil => simp [points]
  | cons r l ih =>
    have := point_len r
    have e : points (r :: l) = point r ++ points l := rfl
    rw [e]; simp; omega

/-- How many backslashes stand right before k, not counted beyond lo. -/
def run (p : Nat → Int) (lo : Nat) : Nat → Nat
  | 0 => 0
  | k + 1 => if k < lo then 0 else if p k = 92 then run p lo k + 1 else 0
def even (p : Nat → Int) (lo k : Nat) : Bool := run p lo k % 2 == 0
theorem run_le (p : Nat → Int) (lo : Nat) : ∀ k, run p lo k ≤ k
  | 0 => Nat.le_refl _
  | k + 1 => by have := run_le p lo k; rw [run]; split; omega; split <;> omega
theorem run_lo (p : Nat → Int) (lo : Nat) : run p lo lo = 0 := by
  cases lo with
  | zero => rfl
  | succ k => rw [run, if_pos (Nat.lt_succ_self k)]
theorem even_lo (p : Nat → Int) (lo : Nat) : even p lo lo = true := by unfold even; rw [run_lo]; rfl
theorem even_plain (p : Nat → Int) (lo k : Nat) (h : p k ≠ 92) : even p lo (k + 1) = true := by
  unfold even; rw [run]
  split
  · rfl
  · rfl
theorem even_back (p : Nat → Int) (lo k : Nat) (hk : lo ≤ k) (h : p k = 92) : even p lo (k + 1) = !even p lo k := by
  unfold even; rw [run, if_neg (by omega), if_pos h]
  rcases Nat.mod_two_eq_zero_or_one (run p lo k) with e | e
  · rw [show (run p lo k + 1) % 2 = 1 from by omega, e]; rfl
  · rw [show (run p lo k + 1) % 2 = 0 from by omega, e]; rfl

/-- The members between lo and k. -/
def mem (p : Nat → Int) (lo : Nat) : Nat → List Int
  | 0 => []
  | k + 1 => if k < lo then [] else if p k = 92 ∧ even p lo k = true then mem p lo k else mem p lo k ++ [p k]
theorem mem_lo (p : Nat → Int) (lo : Nat) : mem p lo lo = [] := by
  cases lo with
  | zero => rfl
  | succ k => rw [mem, if_pos (Nat.lt_succ_self k)]
theorem mem_skip (p : Nat → Int) (lo k : Nat) (hk : lo ≤ k) (h : p k = 92) (he : even p lo k = true) : mem p lo (k + 1) = mem p lo k := by
  rw [mem, if_neg (by omega), if_pos ⟨h, he⟩]
theorem mem_take (p : Nat → Int) (lo k : Nat) (hk : lo ≤ k) (h : ¬ (p k = 92 ∧ even p lo k = true)) : mem p lo (k + 1) = mem p lo k ++ [p k] := by
  rw [mem, if_neg (by omega), if_neg h]
theorem mem_len (p : Nat → Int) (lo : Nat) : ∀ k, (mem p lo k).length ≤ k
  | 0 => Nat.le_refl _
  | k + 1 => by have := mem_len p lo k; rw [mem]; split; simp; split <;> simp <;> omega

/-- A ']' that no backslash makes stand for itself. -/
def term (p : Nat → Int) (lo k : Nat) : Prop := p k = 93 ∧ even p lo k = true
/-- No such one in [lo, k). -/
def clean (p : Nat → Int) (lo k : Nat) : Prop := ∀ l, lo ≤ l → l < k → ¬ term p lo l
theorem clean_lo (p : Nat → Int) (lo : Nat) : clean p lo lo := fun l h1 h2 => by omega
theorem clean_step {p : Nat → Int} {lo k : Nat} (h : clean p lo k) (hk : ¬ term p lo k) : clean p lo (k + 1) := fun l h1 h2 => by
  by_cases e : l = k
  · subst e; exact hk
  · exact h l h1 (by omega)

/-- The range form. -/
def rng (p : Nat → Int) (n j : Nat) : Prop := j + 1 < n ∧ p (j + 1) = 45
def rngOk (p : Nat → Int) (n j : Nat) : Prop := j + 3 < n ∧ p (j + 3) = 93

/-- What the grammar answers: the class that begins at j, 'neg' the sign of a negated one. -/
def Ans (p : Nat → Int) (n j : Nat) (neg : List UInt8) (a : Int) (s : List UInt8) (ok : Bool) : Prop :=
  (rng p n j ∧ rngOk p n j ∧ a = (j : Int) + 3 ∧ s = [91] ++ neg ++ (point (p j) ++ ([45] ++ (point (p (j + 2)) ++ [93]))) ∧ ok = true) ∨
  (rng p n j ∧ ¬ rngOk p n j ∧ a = 0 ∧ s = [] ∧ ok = false) ∨
  (¬ rng p n j ∧ (∃ e, j < e ∧ e < n ∧ term p j e ∧ clean p j e ∧ a = (e : Int) ∧ s = [91] ++ neg ++ (points (mem p j e) ++ [93])) ∧ ok = true) ∨
  (¬ rng p n j ∧ (∀ e, j < e → e < n → term p j e → ¬ clean p j e) ∧ a = 0 ∧ s = [] ∧ ok = false)

theorem ans_unique {p : Nat → Int} {n j : Nat} {neg : List UInt8} {a a' : Int} {s s' : List UInt8} {ok ok' : Bool} (h : Ans p n j neg a s ok) (h' : Ans p n j neg a' s' ok') : a = a' ∧ s = s' ∧ ok = ok' := by
  rcases h with ⟨h1, h2, rfl, rfl, rfl⟩ | ⟨h1, h2, rfl, rfl, rfl⟩ | ⟨h1, ⟨e, e1, e2, e3, e4, rfl, rfl⟩, rfl⟩ | ⟨h1, h2, rfl, rfl, rfl⟩ <;>
  rcases h' with ⟨g1, g2, rfl, rfl, rfl⟩ | ⟨g1, g2, rfl, rfl, rfl⟩ | ⟨g1, ⟨f, f1, f2, f3, f4, rfl, rfl⟩, rfl⟩ | ⟨g1, g2, rfl, rfl, rfl⟩
  all_goals first
    | exact ⟨rfl, rfl, rfl⟩
    | exact absurd ‹rng p n j› ‹¬ rng p n j›
    | exact absurd ‹rngOk p n j› ‹¬ rngOk p n j›
    | skip
  · have hef : e = f := by
      rcases Nat.lt_trichotomy e f with hlt | he | hlt
      · exact absurd e3 (f4 e (by omega) hlt)
      · exact he
      · exact absurd f3 (e4 f (by omega) hlt)
    subst hef
    exact ⟨rfl, rfl, rfl⟩
  · exact absurd e4 (g2 e e1 e2 e3)
  · exact absurd f4 (h2 f f1 f2 f3)

/-- Where the class begins behind an optional '!'. -/
def jOf (p : Nat → Int) (n i : Nat) : Nat := if i < n ∧ p i = 33 then i + 1 else i
def negOf (p : Nat → Int) (n i : Nat) : List UInt8 := if i < n ∧ p i = 33 then [94] else []

end Go.Proofs.Qxb6618447aDoor.Plain
