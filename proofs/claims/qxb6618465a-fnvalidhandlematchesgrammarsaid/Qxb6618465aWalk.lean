/-
  The tag handle: the walks.
-/
import Derived.Test.Qxb6618465aRows
import Derived.Test.Qxb6618465aPlain
import Derived.WalkKit
import Derived.WalkLawsBesides
import Derived.Laws.BitsAll
namespace Go.Proofs.Qxb6618465a.Handle
open Go Go.RowKit

theorem ret_bool {a b : Bool} (h : a = b) : Ending.returned (.bool a) = .returned (.bool b) := by rw [h]

theorem bytes_yes (s : ByteArray) (w : World) (hn : s.size ≤ 1048576) : Calls Try.prog 4 #[.string s] w fun e w' => e = .returned (.bool true) ∧ w' = w := by
  go_enter Try.func4, Try.ntmps4
  go_wp2
  go_ret
  exact ⟨rfl, rfl⟩
theorem bytes_no (s : ByteArray) (w : World) (hn : 1048576 < s.size) : Calls Try.prog 4 #[.string s] w fun e w' => e = .returned (.bool false) ∧ w' = w := by
  go_enter Try.func4, Try.ntmps4
  go_wp2
  go_ret
  exact ⟨rfl, rfl⟩

set_option maxHeartbeats 1000000 in
theorem isWord_any (c : Nat) (w : World) : Calls Try.prog 9 #[.int .u8 c] w fun e w' => e = .returned (.bool (Plain.word c)) ∧ w' = w := by
  go_enter Try.func9, Try.ntmps9
  go_wp2
  all_goals
    go_ret
    refine ⟨ret_bool ?_, rfl⟩
    rw [Bool.eq_iff_iff, Plain.word_iff]
    simp
    omega

set_option maxHeartbeats 1000000 in
theorem name_any (c : Nat) (w : World) (hc : c < 256) : Calls Try.prog 8 #[.int .u8 c] w fun e w' => e = .returned (.bool (Plain.word c)) ∧ w' = w := by
  obtain ⟨l, hl⟩ : ∃ l, l = c ||| 32 := ⟨_, rfl⟩
  have hor : bits .or .u8 (c : Int) 32 = (l : Int) := by rw [hl]; exact u8_or_nat c 32 hc (by decide)
  have HL := Plain.letter_iff hc
  rw [← hl] at HL
  have HL' : Hid ((97 ≤ l ∧ l ≤ 122) ↔ ((97 ≤ c ∧ c ≤ 122) ∨ (65 ≤ c ∧ c ≤ 90))) := HL
  clear HL hl
  go_enter Try.func8, Try.ntmps8
  go_wp2
  all_goals
    go_ret
    refine ⟨ret_bool ?_, rfl⟩
    have HL := HL'.out
    rw [Bool.eq_iff_iff, Plain.word_iff]
    simp
    omega

/-- The byte at k. -/
def byteAt (s : ByteArray) (k : Nat) : Nat := if h : k < s.size then (s[k]'h).toNat else 0
theorem byteAt_lt (s : ByteArray) (k : Nat) (h : k < s.size) : (s[k]'h).toNat = byteAt s k := by unfold byteAt; rw [dif_pos h]
theorem byteAt_256 (s : ByteArray) (k : Nat) : byteAt s k < 256 := by
  unfold byteAt; split
  · exact UInt8.toNat_lt _
  · omega

/-- The answer says whether it is a handle. -/
def Says (s : ByteArray) (e : Ending) : Prop := ∃ r, e = .returned (.bool r) ∧ (r = true ↔ Plain.Valid (byteAt s) s.size)
theorem Says.no {s : ByteArray} (h : ¬ Plain.Valid (byteAt s) s.size) : Says s (.returned (.bool false)) := ⟨false, rfl, by simp [h]⟩
theorem Says.yes {s : ByteArray} (h : Plain.Valid (byteAt s) s.size) : Says s (.returned (.bool true)) := ⟨true, rfl, by simp [h]⟩

set_option maxHeartbeats 2000000 in
theorem auto_any (s : ByteArray) (w : World) (hn : s.size ≤ 1048576) : Calls Try.prog 6 #[.string s] w fun e w' => Says s e ∧ w' = w := by
  go_enter Try.func6, Try.ntmps6
  go_wp2
  go_loop [3, 4] (fun st ii => ∃ (k z : Nat), k ≤ s.size ∧ ii = .int .i64 k ∧ st = .int .i64 z ∧ Hid (Plain.At (byteAt s) k z)) (fun _ ii => s.size - (intOf ii).toNat)
  case atStart => exact ⟨0, 0, Nat.zero_le _, rfl, rfl, Plain.at_zero _⟩
  case round =>
  obtain ⟨k, z, hk, rfl, rfl, hA⟩ := hrel
  by_cases hlt : k < s.size
  · have hb := byteAt_lt s k hlt
    have hb256 := byteAt_256 s k
    obtain ⟨x, hx⟩ : ∃ x, x = byteAt s k := ⟨_, rfl⟩
    have HX : Hid (x = byteAt s k) := hx
    rw [← hx] at hb hb256
    clear hx
    have HN := name_any x w hb256
    rcases Plain.at_lt hA.out with rfl | rfl | rfl | rfl
    · clear HN
      by_cases h33 : x = 33
      · have R : Hid (Plain.At (byteAt s) (k + 1) 1) := Plain.step_open hA.out (by rw [← HX.out]; exact h33)
        have b33 : ((x : Int) == 33) = true := beq_iff_eq.2 (by omega)
        clear h33
        go_wp2_with fail
        go_round
        case rel => exact ⟨k + 1, 1, by omega, by go_num, rfl, R⟩
        case measure => simp [intOf]; omega
      · have R : Hid (¬ Plain.Valid (byteAt s) s.size) := Plain.dead_open hA.out hlt (by rw [← HX.out]; exact h33)
        have b33 : ((x : Int) == 33) = false := beq_eq_false_iff_ne.2 (by omega)
        clear h33
        go_wp2_with fail
        go_ret
        exact ⟨Says.no R.out, rfl⟩
    · by_cases h33 : x = 33
      · have R : Hid (Plain.At (byteAt s) (k + 1) 3) := Plain.step_close hA.out (by omega) (by rw [← HX.out]; exact h33)
        have b33 : ((x : Int) == 33) = true := beq_iff_eq.2 (by omega)
        clear h33 HN
        go_wp2_with fail
        go_round
        case rel => exact ⟨k + 1, 3, by omega, by go_num, rfl, R⟩
        case measure => simp [intOf]; omega
      · have b33 : ((x : Int) == 33) = false := beq_eq_false_iff_ne.2 (by omega)
        cases hw : Plain.word x
        · have R : Hid (¬ Plain.Valid (byteAt s) s.size) := Plain.dead_mid hA.out (by omega) hlt (by rw [← HX.out]; exact h33) (by rw [← HX.out]; exact hw)
          rw [hw] at HN
          have HN' : Hid (Calls Try.prog 8 _ _ _) := HN
          clear h33 HN hw
          go_wp2_with fail
          refine HN'.out.mono ?_
          rintro e w' ⟨rfl, hw'⟩; subst w'
          go_wp2_with fail
          go_ret
          exact ⟨Says.no R.out, rfl⟩
        · have R : Hid (Plain.At (byteAt s) (k + 1) 2) := Plain.step_word hA.out (by omega) (by rw [← HX.out]; exact hw)
          rw [hw] at HN
          have HN' : Hid (Calls Try.prog 8 _ _ _) := HN
          clear h33 HN hw
          go_wp2_with fail
          refine HN'.out.mono ?_
          rintro e w' ⟨rfl, hw'⟩; subst w'
          go_wp2_with fail
          go_round
          case rel => exact ⟨k + 1, 2, by omega, by go_num, rfl, R⟩
          case measure => simp [intOf]; omega
    · by_cases h33 : x = 33
      · have R : Hid (Plain.At (byteAt s) (k + 1) 3) := Plain.step_close hA.out (by omega) (by rw [← HX.out]; exact h33)
        have b33 : ((x : Int) == 33) = true := beq_iff_eq.2 (by omega)
        clear h33 HN
        go_wp2_with fail
        go_round
        case rel => exact ⟨k + 1, 3, by omega, by go_num, rfl, R⟩
        case measure => simp [intOf]; omega
      · have b33 : ((x : Int) == 33) = false := beq_eq_false_iff_ne.2 (by omega)
        cases hw : Plain.word x
        · have R : Hid (¬ Plain.Valid (byteAt s) s.size) := Plain.dead_mid hA.out (by omega) hlt (by rw [← HX.out]; exact h33) (by rw [← HX.out]; exact hw)
          rw [hw] at HN
          have HN' : Hid (Calls Try.prog 8 _ _ _) := HN
          clear h33 HN hw
          go_wp2_with fail
          refine HN'.out.mono ?_
          rintro e w' ⟨rfl, hw'⟩; subst w'
          go_wp2_with fail
          go_ret
          exact ⟨Says.no R.out, rfl⟩
        · have R : Hid (Plain.At (byteAt s) (k + 1) 2) := Plain.step_word hA.out (by omega) (by rw [← HX.out]; exact hw)
          rw [hw] at HN
          have HN' : Hid (Calls Try.prog 8 _ _ _) := HN
          clear h33 HN hw
          go_wp2_with fail
          refine HN'.out.mono ?_
          rintro e w' ⟨rfl, hw'⟩; subst w'
          go_wp2_with fail
          go_round
          case rel => exact ⟨k + 1, 2, by omega, by go_num, rfl, R⟩
          case measure => simp [intOf]; omega
    · clear HN
      have R : Hid (¬ Plain.Valid (byteAt s) s.size) := Plain.dead_end hA.out hlt
      go_wp2_with fail
      go_ret
      exact ⟨Says.no R.out, rfl⟩
  · have hkn : k = s.size := by omega
    rw [hkn] at hA
    clear hkn
    rcases Plain.at_lt hA.out with rfl | rfl | rfl | rfl
    · go_wp2_with fail
      go_ret
      exact ⟨Says.no (Plain.end_0 hA.out), rfl⟩
    · go_wp2_with fail
      go_ret
      exact ⟨Says.yes (Plain.end_1 hA.out), rfl⟩
    · go_wp2_with fail
      go_ret
      exact ⟨Says.no (Plain.end_2 hA.out), rfl⟩
    · go_wp2_with fail
      go_ret
      exact ⟨Says.yes (Plain.end_3 hA.out), rfl⟩

theorem says_short {s : ByteArray} (hn : s.size < 2) : Says s (.returned (.bool (s.toList == [33]))) := by
  refine ⟨_, rfl, ?_⟩
  have hl : s.data.toList.length = s.size := by rw [Array.length_toList]; rfl
  rw [ByteArray.toList_eq, beq_iff_eq]
  constructor
  · intro h
    have h1 : s.size = 1 := by rw [← hl, h]; rfl
    refine .inl ⟨h1, ?_⟩
    have hb := byteAt_lt s 0 (by omega)
    rw [← hb]
    have : s.data.toList[0]? = some 33 := by rw [h]; rfl
    have h0 : (0 : Nat) < s.size := by omega
    have e : s.data.toList[0]? = some (s[0]'h0) := by
      rw [Array.getElem?_toList, Array.getElem?_eq_getElem (show 0 < s.data.size from h0)]
      rfl
    rw [e] at this
    rw [Option.some.inj this]
    rfl
  · rintro (⟨h1, h2⟩ | ⟨h1, _⟩)
    · have h0 : (0 : Nat) < s.size := by omega
      rw [← byteAt_lt s 0 h0] at h2
      have e : s.data.toList[0]? = some (s[0]'h0) := by
        rw [Array.getElem?_toList, Array.getElem?_eq_getElem (show 0 < s.data.size from h0)]
        rfl
      have e33 : (s[0]'h0) = 33 := UInt8.toNat_inj.1 h2
      apply List.ext_getElem?
      intro k
      cases k with
      | zero => rw [e, e33]; rfl
      | succ k => rw [List.getElem?_eq_none (by omega)]; rfl
    · omega

set_option maxHeartbeats 2000000 in
theorem valid_short (s : ByteArray) (w : World) (hn : s.size < 2) : Calls Try.prog 7 #[.string s] w fun e w' => Says s e ∧ w' = w := by
  go_enter Try.func7, Try.ntmps7
  go_wp2
  go_ret
  exact ⟨says_short hn, rfl⟩

set_option maxHeartbeats 2000000 in
theorem valid_long (s : ByteArray) (w : World) (hn : 2 ≤ s.size) (hN : s.size ≤ 1048576) : Calls Try.prog 7 #[.string s] w fun e w' => Says s e ∧ w' = w := by
  obtain ⟨m, hm⟩ : ∃ m, s.size = m + 1 := ⟨s.size - 1, by omega⟩
  have HM : Hid (s.size = m + 1) := hm
  have hm1 : 1 ≤ m := by omega
  have hm2 : m ≤ 1048576 := by omega
  have hb0 := byteAt_lt s 0 (by omega)
  have hbm := byteAt_lt s m (by omega)
  obtain ⟨x, hx⟩ : ∃ x, x = byteAt s 0 := ⟨_, rfl⟩
  obtain ⟨y, hy⟩ : ∃ y, y = byteAt s m := ⟨_, rfl⟩
  have HX : Hid (x = byteAt s 0) := hx
  have HY : Hid (y = byteAt s m) := hy
  rw [← hx] at hb0
  rw [← hy] at hbm
  clear hx hy
  by_cases h33 : x = 33
  · have b33 : ((x : Int) != 33) = false := by simp; omega
    by_cases g33 : y = 33
    · have d33 : ((y : Int) != 33) = false := by simp; omega
      have H33 : Hid (x = 33) := h33
      have G33 : Hid (y = 33) := g33
      clear h33 g33
      go_enter Try.func7, Try.ntmps7
      go_wp2_with fail
      go_loop [3] (fun ii => ∃ k : Nat, 1 ≤ k ∧ k ≤ m ∧ ii = .int .i64 k ∧ Hid (∀ l, 1 ≤ l → l < k → Plain.word (byteAt s l) = true)) (fun ii => m - (intOf ii).toNat)
      case atStart => exact ⟨1, Nat.le_refl _, hm1, rfl, fun l h1 h2 => by omega⟩
      case round =>
      obtain ⟨k, hk1, hk2, rfl, hall⟩ := hrel
      by_cases hlt : k < m
      · have hks : k < s.size := by omega
        have hbk := byteAt_lt s k hks
        obtain ⟨z, hz⟩ : ∃ z, z = byteAt s k := ⟨_, rfl⟩
        have HZ : Hid (z = byteAt s k) := hz
        rw [← hz] at hbk
        clear hz
        have HN := isWord_any z w
        cases hw : Plain.word z
        · have R : Hid (¬ Plain.Valid (byteAt s) s.size) := by
            rintro (⟨h1, _⟩ | ⟨_, _, _, h3⟩)
            · omega
            · have := h3 k hk1 (by omega)
              rw [← HZ.out, hw] at this; cases this
          rw [hw] at HN
          have HN' : Hid (Calls Try.prog 9 _ _ _) := HN
          clear HN hw
          go_wp2_with fail
          refine HN'.out.mono ?_
          rintro e w' ⟨rfl, hw'⟩; subst w'
          go_wp2_with fail
          go_ret
          exact ⟨Says.no R.out, rfl⟩
        · have R : Hid (∀ l, 1 ≤ l → l < k + 1 → Plain.word (byteAt s l) = true) := fun l h1 h2 => by
            by_cases e : l = k
            · subst e; rw [← HZ.out]; exact hw
            · exact hall.out l h1 (by omega)
          rw [hw] at HN
          have HN' : Hid (Calls Try.prog 9 _ _ _) := HN
          clear HN hw
          go_wp2_with fail
          refine HN'.out.mono ?_
          rintro e w' ⟨rfl, hw'⟩; subst w'
          go_wp2_with fail
          go_round
          case rel => exact ⟨k + 1, by omega, by omega, by go_num, R⟩
          case measure => simp [intOf]; omega
      · have hkm : k = m := by omega
        have R : Hid (Plain.Valid (byteAt s) s.size) := .inr ⟨by omega, by rw [← HX.out]; exact H33.out, by rw [HM.out, Nat.add_sub_cancel, ← HY.out]; exact G33.out, fun l h1 h2 => hall.out l h1 (by omega)⟩
        clear hkm
        go_wp2_with fail
        go_ret
        exact ⟨Says.yes R.out, rfl⟩
    · have d33 : ((y : Int) != 33) = true := by simp; omega
      have R : Hid (¬ Plain.Valid (byteAt s) s.size) := by
        rintro (⟨h1, _⟩ | ⟨_, _, h3, _⟩)
        · omega
        · rw [HM.out, Nat.add_sub_cancel, ← HY.out] at h3; exact g33 h3
      clear h33 g33
      go_enter Try.func7, Try.ntmps7
      go_wp2_with fail
      go_ret
      exact ⟨Says.no R.out, rfl⟩
  · have b33 : ((x : Int) != 33) = true := by simp; omega
    have R : Hid (¬ Plain.Valid (byteAt s) s.size) := by
      rintro (⟨_, h2⟩ | ⟨_, h2, _⟩)
      · rw [← HX.out] at h2; exact h33 h2
      · rw [← HX.out] at h2; exact h33 h2
    clear h33
    go_enter Try.func7, Try.ntmps7
    go_wp2_with fail
    go_ret
    exact ⟨Says.no R.out, rfl⟩

theorem valid_any (s : ByteArray) (w : World) (hN : s.size ≤ 1048576) : Calls Try.prog 7 #[.string s] w fun e w' => Says s e ∧ w' = w := by
  by_cases hn : s.size < 2
  · exact valid_short s w hn
  · exact valid_long s w (by omega) hN

theorem zzvalid_any (s : ByteArray) (w : World) (hN : s.size ≤ 1048576) : Calls Try.prog 5 #[.string s] w fun e w' => Says s e ∧ w' = w := by
  have HC : Hid (Calls Try.prog 7 _ _ _) := valid_any s w hN
  go_enter Try.func5, Try.ntmps5
  go_wp2_with fail
  refine HC.out.mono ?_
  rintro e w' ⟨⟨r, rfl, hr⟩, hw'⟩; subst w'
  have HR : Hid (r = true ↔ Plain.Valid (byteAt s) s.size) := hr
  clear hr
  go_wp2_with fail
  go_ret
  exact ⟨⟨r, rfl, HR.out⟩, rfl⟩

set_option maxHeartbeats 1000000 in
theorem law (s : ByteArray) (w : World) : Calls Try.prog 3 #[.string s] w fun e w' => e = .returned (.bool true) ∧ w' = w := by
  by_cases hN : s.size ≤ 1048576
  · have HB : Hid (Calls Try.prog 4 _ _ _) := bytes_yes s w hN
    have HV : Hid (Calls Try.prog 5 _ _ _) := zzvalid_any s w hN
    have HA : Hid (Calls Try.prog 6 _ _ _) := auto_any s w hN
    go_enter Try.func3, Try.ntmps3
    go_wp2_with fail
    refine HB.out.mono ?_
    rintro e w' ⟨rfl, hw'⟩; subst w'
    go_wp2_with fail
    refine HV.out.mono ?_
    rintro e w' ⟨⟨r, rfl, hr⟩, hw'⟩; subst w'
    have HR : Hid (r = true ↔ Plain.Valid (byteAt s) s.size) := hr
    clear hr
    go_wp2_with fail
    refine HA.out.mono ?_
    rintro e w' ⟨⟨r', rfl, hr'⟩, hw'⟩; subst w'
    have hrr : r' = r := by rw [Bool.eq_iff_iff, hr', HR.out]
    subst hrr
    clear hr' HR
    go_wp2_with fail
    go_ret
    exact ⟨by simp, rfl⟩
  · have HB : Hid (Calls Try.prog 4 _ _ _) := bytes_no s w (by omega)
    go_enter Try.func3, Try.ntmps3
    go_wp2_with fail
    refine HB.out.mono ?_
    rintro e w' ⟨rfl, hw'⟩; subst w'
    go_wp2_with fail
    go_ret
    exact ⟨rfl, rfl⟩

end Go.Proofs.Qxb6618465a.Handle
