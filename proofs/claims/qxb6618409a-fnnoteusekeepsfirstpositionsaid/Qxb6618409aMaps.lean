/-
  FnNoteUseKeepsFirstPosition: THE WALKS OVER THE TABLE: noteUse, ZZNoteUse, ZZNewParser, ZZFirstUse.
-/
import Derived.Test.Qxb6618409aReads
import Derived.Maps.OwnSet
import Derived.Maps.AppendAt
import Derived.BigQuiet
import Derived.Deep.QuietTactic
import Derived.RegionTactic
import Derived.BigRegion
namespace Go.Proofs.Qxb6618409a.NoteUse
open Go Go.RowKit Go.WideMaps Go.Maps

theorem law : Keyed Try.prog 9 := string_keyed Try.underlying9
theorem zero3 (w : World) : (zeroValue 3).run Try.prog w = .ok (.int .i64 0) w := by kernel_rfl

/-- The look-up with 'ok', in whatever world bears the table. -/
theorem look_eq {H : Type} {D : DataW H} {s : ByteArray} {c : Int} (hs : s.size ≤ maxLen) (hat : D.atKey (Plain.kd s) (.lit (.int .i64 0)) = .lit (.int .i64 c)) {M n : Nat} {wx : World}
    (hown : wx.ownsMap Try.prog 9 (plainElem Try.prog 3) M n D) :
    (Instr.lookup 26 (.map (some M)) (.string s) true).run Try.prog wx = .ok (.tuple #[.int .i64 c, .bool (Maps.has D (Plain.kd s))]) wx := by
  obtain ⟨v, ps, hrun, hv⟩ := hown.look_ok law Try.underlying26 (zero3 wx) (plainElem_int Try.underlying3 (by decide)) (keyOf_string_mk Try.underlying9 hs)
  obtain ⟨c', rfl, hc, _⟩ := plainElem_int_inv Try.underlying3 hv
  have h1 : D.atKey (Plain.kd s) (.lit (.int .i64 0)) = .lit (.int .i64 c') := congrArg Prod.fst hc
  rw [hat] at h1
  obtain rfl : c = c' := by simpa using h1
  exact hrun

theorem grownBy_drewN (w : World) (n : Nat) (row : Option Nat) : w.grownBy (w.drewN n) row := ⟨rfl, rfl, rfl, Nat.le_refl _, fun _ _ _ => rfl⟩

/-- What a use of a name leaves of the table. -/
def put1 {H : Type} (D : DataW H) (s : ByteArray) (v : Int) : DataW H := if Maps.has D (Plain.kd s) then D else D.put (Plain.kd s) (.lit (.int .i64 v))

set_option maxHeartbeats 1000000 in
theorem noteUse_has {H : Type} {D : DataW H} (PB M n : Nat) (k0 s : ByteArray) (v c x1 x2 x4 x5 : Int) (x3 : Bool) (w : World) (hs : s.size ≤ maxLen) (hat : D.atKey (Plain.kd s) (.lit (.int .i64 0)) = .lit (.int .i64 c))
    (hhas : Maps.has D (Plain.kd s) = true) (hown : w.ownsMap Try.prog 9 (plainElem Try.prog 3) M n D) (hcell : w.cell? ⟨PB, 16, none⟩ = some (.map (some M))) (hPB : PB < w.heap.size) :
    Calls Try.prog 12 #[.pointer (some ⟨PB, 0, none⟩), .agg #[.string k0, .string s, .int .i64 v, .int .i64 x1, .int .i64 x2, .bool x3, .int .i64 x4, .int .i64 x5]] w
      fun e w' => e = .returned (.tuple #[]) ∧ w'.ownsMap Try.prog 9 (plainElem Try.prog 3) M n D ∧ w.grownBy w' (some M) := by
  have hl : ∀ O nq, (Instr.lookup 26 (.map (some M)) (.string s) true).run Try.prog ((w.alloc O).drewN nq) = .ok (.tuple #[.int .i64 c, .bool true]) ((w.alloc O).drewN nq) := fun O nq => by
    have := look_eq hs hat (show ((w.alloc O).drewN nq).ownsMap _ _ _ _ _ _ from hown.alloc O)
    rw [hhas] at this; exact this
  clear hat
  go_enter Try.func12, Try.ntmps12
  go_wp2
  go_quiet (fail)
  go_wp2
  go_end0
  exact ⟨rfl, hown.alloc _, (World.grownBy_alloc w _ _).trans (grownBy_drewN _ _ _)⟩

set_option maxHeartbeats 1000000 in
theorem noteUse_not {H : Type} {D : DataW H} (PB M n : Nat) (k0 s : ByteArray) (v c x1 x2 x4 x5 : Int) (x3 : Bool) (w : World) (hs : s.size ≤ maxLen) (hat : D.atKey (Plain.kd s) (.lit (.int .i64 0)) = .lit (.int .i64 c))
    (hhas : Maps.has D (Plain.kd s) = false) (hown : w.ownsMap Try.prog 9 (plainElem Try.prog 3) M n D) (hn : n < maxLen) (hwv : (Lit.int .i64 v).wf = true) (hcell : w.cell? ⟨PB, 16, none⟩ = some (.map (some M))) (hPB : PB < w.heap.size) :
    Calls Try.prog 12 #[.pointer (some ⟨PB, 0, none⟩), .agg #[.string k0, .string s, .int .i64 v, .int .i64 x1, .int .i64 x2, .bool x3, .int .i64 x4, .int .i64 x5]] w
      fun e w' => e = .returned (.tuple #[]) ∧ w'.ownsMap Try.prog 9 (plainElem Try.prog 3) M (n + 1) (D.put (Plain.kd s) (.lit (.int .i64 v))) ∧ w.grownBy w' (some M) := by
  have hl : ∀ O nq, (Instr.lookup 26 (.map (some M)) (.string s) true).run Try.prog ((w.alloc O).drewN nq) = .ok (.tuple #[.int .i64 c, .bool false]) ((w.alloc O).drewN nq) := fun O nq => by
    have := look_eq hs hat (show ((w.alloc O).drewN nq).ownsMap _ _ _ _ _ _ from hown.alloc O)
    rw [hhas] at this; exact this
  clear hat
  go_enter Try.func12, Try.ntmps12
  go_wp2
  go_quiet (fail)
  obtain ⟨w2, hrun2, hown2, hturn2⟩ := (show ((w.alloc (.cells #[.string k0, .string s, .int .i64 v, .int .i64 x1, .int .i64 x2, .bool x3, .int .i64 x4, .int .i64 x5] 47)).drewN (nq + 1)).ownsMap _ _ _ _ _ _ from hown.alloc _).store law Try.underlying26 hn (keyOf_string_mk Try.underlying9 hs) (plainElem_int Try.underlying3 hwv)
  clear hl
  go_wp2
  go_region
  go_end0
  exact ⟨rfl, hown2, ((World.grownBy_alloc w _ _).trans (grownBy_drewN _ (nq + 1) _)).trans hturn2.grown⟩

theorem noteUse_any {H : Type} {D : DataW H} (PB M n : Nat) (k0 s : ByteArray) (v c x1 x2 x4 x5 : Int) (x3 : Bool) (w : World) (hs : s.size ≤ maxLen) (hat : D.atKey (Plain.kd s) (.lit (.int .i64 0)) = .lit (.int .i64 c))
    (hown : w.ownsMap Try.prog 9 (plainElem Try.prog 3) M n D) (hn : n < maxLen) (hwv : (Lit.int .i64 v).wf = true) (hcell : w.cell? ⟨PB, 16, none⟩ = some (.map (some M))) (hPB : PB < w.heap.size) :
    Calls Try.prog 12 #[.pointer (some ⟨PB, 0, none⟩), .agg #[.string k0, .string s, .int .i64 v, .int .i64 x1, .int .i64 x2, .bool x3, .int .i64 x4, .int .i64 x5]] w
      fun e w' => e = .returned (.tuple #[]) ∧ w'.ownsMap Try.prog 9 (plainElem Try.prog 3) M (n + 1) (put1 D s v) ∧ w.grownBy w' (some M) := by
  cases hh : Maps.has D (Plain.kd s)
  · refine (noteUse_not PB M n k0 s v c x1 x2 x4 x5 x3 w hs hat hh hown hn hwv hcell hPB).mono ?_
    rintro e w' ⟨rfl, h1, h2⟩
    exact ⟨rfl, by rw [put1, hh]; exact h1, h2⟩
  · refine (noteUse_has PB M n k0 s v c x1 x2 x4 x5 x3 w hs hat hh hown hcell hPB).mono ?_
    rintro e w' ⟨rfl, h1, h2⟩
    exact ⟨rfl, by rw [put1, hh]; exact h1.mono (Nat.le_succ _), h2⟩

set_option maxHeartbeats 1000000 in
theorem zzNoteUse_any {H : Type} {D : DataW H} (PB M n : Nat) (s : ByteArray) (v c : Int) (w : World) (hs : s.size ≤ maxLen) (hat : D.atKey (Plain.kd s) (.lit (.int .i64 0)) = .lit (.int .i64 c))
    (hown : w.ownsMap Try.prog 9 (plainElem Try.prog 3) M n D) (hn : n < maxLen) (hwv : (Lit.int .i64 v).wf = true) (hcell : w.cell? ⟨PB, 16, none⟩ = some (.map (some M))) (hPB : PB < w.heap.size) :
    Calls Try.prog 7 #[.pointer (some ⟨PB, 0, none⟩), .string s, .int .i64 v] w
      fun e w' => e = .returned (.tuple #[]) ∧ w'.ownsMap Try.prog 9 (plainElem Try.prog 3) M (n + 1) (put1 D s v) ∧ w.grownBy w' (some M) := by
  have hc := noteUse_any PB M n ByteArray.empty s v c 0 0 0 0 false w hs hat hown hn hwv hcell hPB
  have HC : Hid (Calls Try.prog 12 _ _ _) := hc
  clear hc hat hown hwv hcell hPB hn
  go_enter Try.func7, Try.ntmps7
  go_wp2_with fail
  refine HC.out.mono ?_
  rintro e w' ⟨rfl, h1, h2⟩
  go_wp2_with fail
  go_end0
  exact ⟨rfl, h1, h2⟩

set_option maxHeartbeats 1000000 in
theorem newParser_any (M : Nat) (w : World) :
    Calls Try.prog 6 #[.map (some M)] w fun e w' => e = .returned (.pointer (some ⟨w.heap.size, 0, none⟩)) ∧ w'.cell? ⟨w.heap.size, 16, none⟩ = some (.map (some M)) ∧ w.grownBy w' none ∧ w.heap.size < w'.heap.size := by
  go_enter Try.func6, Try.ntmps6
  go_wp2
  go_ret
  refine ⟨rfl, ?_, World.grownBy_alloc w _ _, by simp⟩
  simp

theorem firstUse_any (M PB : Nat) (w : World) (hcell : w.cell? ⟨PB, 16, none⟩ = some (.map (some M))) :
    Calls Try.prog 8 #[.pointer (some ⟨PB, 0, none⟩)] w fun e w' => e = .returned (.map (some M)) ∧ w' = w := by
  go_enter Try.func8, Try.ntmps8
  go_wp2
  go_ret
  exact ⟨rfl, rfl⟩

end Go.Proofs.Qxb6618409a.NoteUse
