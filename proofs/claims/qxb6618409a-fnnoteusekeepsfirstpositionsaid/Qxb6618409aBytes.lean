/-
  FnNoteUseKeepsFirstPosition: THE WALK OF zzBytes_FnNoteUseKeepsFirstPosition (the bound on total length).
-/
import Derived.Test.Qxb6618409aReads
namespace Go.Proofs.Qxb6618409a.NoteUse
open Go Go.RowKit

/-- What zzBytes' answer says. -/
def BPost (K T : Nat → ByteArray) (n0 n2 : Nat) (e : Ending) : Prop := ∃ r, e = .returned (.bool r) ∧ (r = true → (∀ j, j < n0 → (K j).size ≤ 1048576) ∧ (∀ j, j < n2 → (T j).size ≤ 1048576))
theorem BPost.no (K T : Nat → ByteArray) (n0 n2 : Nat) : BPost K T n0 n2 (.returned (.bool false)) := ⟨false, rfl, fun h => by cases h⟩
theorem BPost.yes {K T : Nat → ByteArray} {n0 n2 : Nat} (h : ∀ j, j < n0 → (K j).size ≤ 1048576) (h' : ∀ j, j < n2 → (T j).size ≤ 1048576) : BPost K T n0 n2 (.returned (.bool true)) := ⟨true, rfl, fun _ => ⟨h, h'⟩⟩

set_option maxHeartbeats 1000000 in
theorem bytes_any (a0 a1 a2 a3 : Option Addr) (n0 c0 b0 o0 n1 c1 n2 c2 b2 o2 n3 c3 : Nat) (K T : Nat → ByteArray) (w : World)
    (hs : Sl 22 w a0 n0 c0 b0 o0 (fun j => .string (K j))) (ht : Sl 22 w a2 n2 c2 b2 o2 (fun j => .string (T j)))
    (hK : ∀ j, (K j).size ≤ 9223372036854775807) (hT : ∀ j, (T j).size ≤ 9223372036854775807) :
    Calls Try.prog 4 #[.slice a0 n0 c0, .slice a1 n1 c1, .slice a2 n2 c2, .slice a3 n3 c3] w fun e w' => BPost K T n0 n2 e ∧ w' = w := by
  have hix := hs.ix
  have htx := ht.ix
  by_cases g0 : 1048576 < n0
  · go_enter Try.func4, Try.ntmps4
    go_wp2
    go_ret
    exact ⟨BPost.no _ _ _ _, rfl⟩
  go_enter Try.func4, Try.ntmps4
  go_wp2
  go_loop [9, 10] (fun z j => ∃ (m : Nat) (t : Int), m ≤ n0 ∧ j = .int .i64 m ∧ z = .int .i64 t ∧ 0 ≤ t ∧ t ≤ 1048576 ∧ Hid (∀ j, j < m → (K j).size ≤ 1048576)) (fun _ j => n0 - (intOf j).toNat)
  case atStart => exact ⟨0, _, Nat.zero_le _, rfl, rfl, by omega, by omega, fun j hj => absurd hj (Nat.not_lt_zero _)⟩
  case round =>
    obtain ⟨m, t, hm, rfl, rfl, ht0, ht1, hall⟩ := hrel
    by_cases hlt : m < n0
    · have hcx : w.cell? ⟨b0, o0 + m, none⟩ = some (.string (K m)) := hs.cell m hlt
      have hKm := hK m
      by_cases g1 : 1048576 < (K m).size
      · go_wp2
        go_ret
        exact ⟨BPost.no _ _ _ _, rfl⟩
      · by_cases g2 : 1048576 < t + (K m).size
        · go_wp2
          go_ret
          exact ⟨BPost.no _ _ _ _, rfl⟩
        · go_wp2
          go_round
          case rel => exact ⟨m + 1, _, by omega, by go_num, rfl, by omega, by omega, fun j hj => by
            by_cases e : j = m
            · subst e; omega
            · exact hall.out j (by omega)⟩
          case measure => simp [intOf]; omega
    · have hmn : m = n0 := by omega
      subst hmn
      by_cases g1 : 1048576 < n1
      · go_wp2
        go_ret
        exact ⟨BPost.no _ _ _ _, rfl⟩
      by_cases g2 : 1048576 < t + n1
      · go_wp2
        go_ret
        exact ⟨BPost.no _ _ _ _, rfl⟩
      by_cases g3 : 1048576 < n2
      · go_wp2
        go_ret
        exact ⟨BPost.no _ _ _ _, rfl⟩
      by_cases g4 : 1048576 < t + n1 + n2
      · go_wp2
        go_ret
        exact ⟨BPost.no _ _ _ _, rfl⟩
      go_wp2
      go_loop [9, 11] (fun z j => ∃ (m : Nat) (t : Int), m ≤ n2 ∧ j = .int .i64 m ∧ z = .int .i64 t ∧ 0 ≤ t ∧ t ≤ 1048576 ∧ Hid (∀ j, j < m → (T j).size ≤ 1048576)) (fun _ j => n2 - (intOf j).toNat)
      case atStart => exact ⟨0, _, Nat.zero_le _, rfl, rfl, by omega, by omega, fun j hj => absurd hj (Nat.not_lt_zero _)⟩
      case round =>
        obtain ⟨i, t', hi, rfl, rfl, ht0', ht1', hall'⟩ := hrel
        by_cases hlt' : i < n2
        · have hcx : w.cell? ⟨b2, o2 + i, none⟩ = some (.string (T i)) := ht.cell i hlt'
          have hTi := hT i
          by_cases g5 : 1048576 < (T i).size
          · go_wp2
            go_ret
            exact ⟨BPost.no _ _ _ _, rfl⟩
          · by_cases g6 : 1048576 < t' + (T i).size
            · go_wp2
              go_ret
              exact ⟨BPost.no _ _ _ _, rfl⟩
            · go_wp2
              go_round
              case rel => exact ⟨i + 1, _, by omega, by go_num, rfl, by omega, by omega, fun j hj => by
                by_cases e : j = i
                · subst e; omega
                · exact hall'.out j (by omega)⟩
              case measure => simp [intOf]; omega
        · have hmn' : i = n2 := by omega
          subst hmn'
          by_cases g7 : 1048576 < n3
          · go_wp2
            go_ret
            exact ⟨BPost.no _ _ _ _, rfl⟩
          by_cases g8 : 1048576 < t' + n3
          · go_wp2
            go_ret
            exact ⟨BPost.no _ _ _ _, rfl⟩
          go_wp2
          go_ret
          exact ⟨BPost.yes hall.out hall'.out, rfl⟩

end Go.Proofs.Qxb6618409a.NoteUse
