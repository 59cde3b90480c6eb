/-
  FnNoteUseKeepsFirstPosition: THE WALKS OF THE READERS (zzMin, zzSeenBefore, zzLastInitial, zzFirstText, zzExpected).
-/
import Derived.Test.Qxb6618409aRows
import Derived.Test.Qxb6618409aPlain
import Derived.WalkKit
import Derived.WalkLawsBesides
namespace Go.Proofs.Qxb6618409a.NoteUse
open Go Go.RowKit

/-- A slice that is read: its index, wherever it is asked inside its length, and the cells that it leads to. 'n = 0': nothing is said of its address. -/
structure Sl (t : TypeId) (w : World) (a : Option Addr) (n c b off : Nat) (f : Nat → Value) : Prop where
  ix : ∀ (k : Nat) (w' : World), k < n → (Instr.indexAt t (.slice a n c) (.int .i64 (k : Int))).run Try.prog w' = .ok (.pointer (some ⟨b, off + k, none⟩)) w'
  cell : ∀ k, k < n → w.cell? ⟨b, off + k, none⟩ = some (f k)

theorem ret_bool {a b : Bool} (h : a = b) : Ending.returned (.bool a) = .returned (.bool b) := by rw [h]
theorem ret_int {a b : Int} (h : a = b) : Ending.returned (.int .i64 a) = .returned (.int .i64 b) := by rw [h]
theorem ret_two {a b : Int} {x y : Bool} (h : a = b) (h2 : x = y) : Ending.returned (.tuple #[.int .i64 a, .bool x]) = .returned (.tuple #[.int .i64 b, .bool y]) := by rw [h, h2]

theorem min_any (x y : Int) (w : World) : Calls Try.prog 5 #[.int .i64 x, .int .i64 y] w fun e w' => e = .returned (.int .i64 (if x < y then x else y)) ∧ w' = w := by
  by_cases h : x < y
  · rw [if_pos h]
    go_enter Try.func5, Try.ntmps5
    go_wp2
    go_ret
    exact ⟨rfl, rfl⟩
  · rw [if_neg h]
    go_enter Try.func5, Try.ntmps5
    go_wp2
    go_ret
    exact ⟨rfl, rfl⟩

set_option maxHeartbeats 400000 in
theorem seen_any (a : Option Addr) (n c b off i : Nat) (K : Nat → ByteArray) (k : ByteArray) (w : World) (hs : Sl 22 w a n c b off (fun j => .string (K j))) (hi : i ≤ n) (hn : n ≤ 1048576) :
    Calls Try.prog 9 #[.slice a n c, .int .i64 i, .string k] w fun e w' => e = .returned (.bool (Plain.seen K i k)) ∧ w' = w := by
  have hix := hs.ix
  go_enter Try.func9, Try.ntmps9
  go_wp2
  go_loop [7] (fun j => ∃ m : Nat, m ≤ i ∧ j = .int .i64 m ∧ Hid (Plain.seen K m k = false)) (fun j => i - (intOf j).toNat)
  case atStart => exact ⟨0, Nat.zero_le _, rfl, rfl⟩
  case round =>
    obtain ⟨m, hm, rfl, hsn⟩ := hrel
    by_cases hlt : m < i
    · have hcx : w.cell? ⟨b, off + m, none⟩ = some (.string (K m)) := hs.cell m (by omega)
      have hmn : m < n := by omega
      cases he : Plain.same (K m) k
      · have he' : ((K m).toList == k.toList) = false := he
        have hfin : Hid (Plain.seen K (m + 1) k = false) := by show Plain.seen K (m + 1) k = false; rw [Plain.seen, he, hsn.out]; rfl
        clear he
        go_wp2
        go_round
        case rel => exact ⟨m + 1, by omega, by go_num, hfin⟩
        case measure => simp [intOf]; omega
      · have he' : ((K m).toList == k.toList) = true := he
        have hfin : Hid (Plain.seen K i k = true) := Plain.seen_hit K he i hlt
        clear he
        go_wp2
        go_ret
        exact ⟨ret_bool hfin.out.symm, rfl⟩
    · have hmi : m = i := by omega
      subst hmi
      go_wp2
      go_ret
      exact ⟨ret_bool hsn.out.symm, rfl⟩

set_option maxHeartbeats 400000 in
theorem last_any (a a' : Option Addr) (n c b off n' c' b' off' nk : Nat) (K : Nat → ByteArray) (V : Nat → Int) (k : ByteArray) (w : World) (hs : Sl 22 w a n c b off (fun j => .string (K j))) (hv : Sl 23 w a' n' c' b' off' (fun j => .int .i64 (V j)))
    (hi : nk ≤ n) (hi' : nk ≤ n') (hn : n ≤ 1048576) :
    Calls Try.prog 10 #[.slice a n c, .slice a' n' c', .int .i64 nk, .string k] w fun e w' => e = .returned (.tuple #[.int .i64 ((Plain.lastI K V nk k).getD 0), .bool (Plain.lastI K V nk k).isSome]) ∧ w' = w := by
  have hix := hs.ix
  have hiv := hv.ix
  go_enter Try.func10, Try.ntmps10
  go_wp2
  go_loop [10] (fun j => ∃ (m : Nat) (z : Int), m ≤ nk ∧ j = .int .i64 z ∧ Hid (z = m - 1) ∧ Hid (Plain.lastI K V nk k = Plain.lastI K V m k)) (fun j => (intOf j + 1).toNat)
  case atStart => exact ⟨nk, _, Nat.le_refl _, rfl, rfl, rfl⟩
  case round =>
    obtain ⟨m, z, hm, rfl, hz, hsn⟩ := hrel
    cases m with
    | zero =>
      have hz' : z = -1 := by have := hz.out; omega
      subst hz'
      go_wp2
      go_ret2
      exact ⟨by rw [hsn.out]; rfl, rfl⟩
    | succ m =>
      have hz' : z = (m : Int) := by have := hz.out; omega
      clear hz
      subst hz'
      have hcx : w.cell? ⟨b, off + m, none⟩ = some (.string (K m)) := hs.cell m (by omega)
      have hvx : w.cell? ⟨b', off' + m, none⟩ = some (.int .i64 (V m)) := hv.cell m (by omega)
      have hmn : m < n := by omega
      have hmn' : m < n' := by omega
      cases he : Plain.same (K m) k
      · have he' : ((K m).toList == k.toList) = false := he
        have hfin : Hid (Plain.lastI K V nk k = Plain.lastI K V m k) := by show Plain.lastI K V nk k = _; rw [hsn.out, Plain.lastI, he]; rfl
        clear he
        go_wp2
        go_round
        case rel => exact ⟨m, (m : Int) - 1, by omega, by go_num, rfl, hfin⟩
        case measure => simp [intOf]
      · have he' : ((K m).toList == k.toList) = true := he
        have hfin : Hid (Plain.lastI K V nk k = some (V m)) := by show Plain.lastI K V nk k = _; rw [hsn.out, Plain.lastI, he]; rfl
        clear he
        go_wp2
        go_ret2
        exact ⟨by rw [hfin.out]; rfl, rfl⟩

set_option maxHeartbeats 400000 in
theorem first_any (a a' : Option Addr) (n c b off n' c' b' off' nk : Nat) (K : Nat → ByteArray) (V : Nat → Int) (k : ByteArray) (w : World) (hs : Sl 22 w a n c b off (fun j => .string (K j))) (hv : Sl 23 w a' n' c' b' off' (fun j => .int .i64 (V j)))
    (hi : nk ≤ n) (hi' : nk ≤ n') (hn : n ≤ 1048576) :
    Calls Try.prog 13 #[.slice a n c, .slice a' n' c', .int .i64 nk, .string k] w fun e w' => e = .returned (.tuple #[.int .i64 ((Plain.firstT K V nk k).getD 0), .bool (Plain.firstT K V nk k).isSome]) ∧ w' = w := by
  have hix := hs.ix
  have hiv := hv.ix
  go_enter Try.func13, Try.ntmps13
  go_wp2
  go_loop [10] (fun j => ∃ m : Nat, m ≤ nk ∧ j = .int .i64 m ∧ Hid (Plain.firstT K V m k = none)) (fun j => nk - (intOf j).toNat)
  case atStart => exact ⟨0, Nat.zero_le _, rfl, rfl⟩
  case round =>
    obtain ⟨m, hm, rfl, hsn⟩ := hrel
    by_cases hlt : m < nk
    · have hcx : w.cell? ⟨b, off + m, none⟩ = some (.string (K m)) := hs.cell m (by omega)
      have hvx : w.cell? ⟨b', off' + m, none⟩ = some (.int .i64 (V m)) := hv.cell m (by omega)
      have hmn : m < n := by omega
      have hmn' : m < n' := by omega
      cases he : Plain.same (K m) k
      · have he' : ((K m).toList == k.toList) = false := he
        have hfin : Hid (Plain.firstT K V (m + 1) k = none) := by show Plain.firstT K V (m + 1) k = none; rw [Plain.firstT, he, hsn.out]; rfl
        clear he
        go_wp2
        go_round
        case rel => exact ⟨m + 1, by omega, by go_num, hfin⟩
        case measure => simp [intOf]; omega
      · have he' : ((K m).toList == k.toList) = true := he
        have hfin : Hid (Plain.firstT K V nk k = some (V m)) := Plain.firstT_hit K V he hsn.out nk hlt
        clear he
        go_wp2
        go_ret2
        exact ⟨by rw [hfin.out]; rfl, rfl⟩
    · have hmi : m = nk := by omega
      subst hmi
      go_wp2
      go_ret2
      exact ⟨by rw [hsn.out]; rfl, rfl⟩

set_option maxHeartbeats 400000 in
theorem expd_any (a a' : Option Addr) (n c b off n' c' b' off' nk : Nat) (K : Nat → ByteArray) (V : Nat → Int) (d d' : Option Addr) (m e f g m' e' f' g' nt : Nat) (T : Nat → ByteArray) (P : Nat → Int) (k : ByteArray) (w : World)
    (hs : Sl 22 w a n c b off (fun j => .string (K j))) (hv : Sl 23 w a' n' c' b' off' (fun j => .int .i64 (V j))) (ht : Sl 22 w d m e f g (fun j => .string (T j))) (hp : Sl 23 w d' m' e' f' g' (fun j => .int .i64 (P j)))
    (hi : nk ≤ n) (hi' : nk ≤ n') (hn : n ≤ 1048576) (hj : nt ≤ m) (hj' : nt ≤ m') (hm : m ≤ 1048576) :
    Calls Try.prog 11 #[.slice a n c, .slice a' n' c', .int .i64 nk, .slice d m e, .slice d' m' e', .int .i64 nt, .string k] w
      fun x w' => x = .returned (.tuple #[.int .i64 ((Plain.expd K V nk T P nt k).getD 0), .bool (Plain.expd K V nk T P nt k).isSome]) ∧ w' = w := by
  have h1 := last_any a a' n c b off n' c' b' off' nk K V k w hs hv hi hi' hn
  have h2 := first_any d d' m e f g m' e' f' g' nt T P k w ht hp hj hj' hm
  cases hl : Plain.lastI K V nk k with
  | none =>
    rw [hl] at h1
    have hfin : Hid (Plain.expd K V nk T P nt k = Plain.firstT T P nt k) := by show Plain.expd K V nk T P nt k = _; rw [Plain.expd, hl]
    clear hl
    generalize Plain.firstT T P nt k = r at *
    go_enter Try.func11, Try.ntmps11
    go_wp2_with fail
    refine h1.mono ?_
    rintro e w' ⟨rfl, rfl⟩
    go_wp2_with fail
    refine h2.mono ?_
    rintro e w' ⟨rfl, rfl⟩
    go_wp2_with fail
    go_ret2
    exact ⟨by rw [hfin.out]; rfl, rfl⟩
  | some v =>
    rw [hl] at h1
    have hfin : Hid (Plain.expd K V nk T P nt k = some v) := by show Plain.expd K V nk T P nt k = _; rw [Plain.expd, hl]
    clear hl
    go_enter Try.func11, Try.ntmps11
    go_wp2_with fail
    refine h1.mono ?_
    rintro e w' ⟨rfl, rfl⟩
    go_wp2_with fail
    go_ret2
    exact ⟨by rw [hfin.out]; rfl, rfl⟩

end Go.Proofs.Qxb6618409a.NoteUse
