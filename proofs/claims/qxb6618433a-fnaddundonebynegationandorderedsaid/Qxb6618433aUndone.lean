/-
  THE WALK OF FnAddUndoneByNegationAndOrdered: six ways through.
-/
import Derived.Test.Qxb6618433aAdd
namespace Go.Proofs.Qxb6618433a.Adds
open Go Go.RowKit

theorem no_pos (a b : Int) (w : World) (y0 : 0 < b) (y1 : b ≤ 9223372036854775807) (h : 9223372036854775807 - b < a)
    (HA : Hid (Calls Try.prog 6 #[.int .i64 a, .int .i64 b] w fun e w' => e = .returned (.tuple #[.int .i64 0, .int .u8 1]) ∧ w' = w)) :
    Calls Try.prog 4 #[.int .i64 a, .int .i64 b] w fun e w' => e = .returned (.bool true) ∧ w' = w := by
  go_enter Try.func4, Try.ntmps4
  go_wp2_with fail
  refine HA.out.mono ?_
  rintro e w' ⟨rfl, hw'⟩; subst w'
  go_wp2_with fail
  go_ret
  exact ⟨rfl, rfl⟩

theorem no_neg (a b : Int) (w : World) (y0 : -9223372036854775808 ≤ b) (y1 : b < 0) (h : a < -9223372036854775808 - b)
    (HA : Hid (Calls Try.prog 6 #[.int .i64 a, .int .i64 b] w fun e w' => e = .returned (.tuple #[.int .i64 0, .int .u8 1]) ∧ w' = w)) :
    Calls Try.prog 4 #[.int .i64 a, .int .i64 b] w fun e w' => e = .returned (.bool true) ∧ w' = w := by
  go_enter Try.func4, Try.ntmps4
  go_wp2_with fail
  refine HA.out.mono ?_
  rintro e w' ⟨rfl, hw'⟩; subst w'
  go_wp2_with fail
  go_ret
  exact ⟨rfl, rfl⟩

theorem yes_pos (a b r : Int) (w : World) (y0 : 0 < b) (y1 : b ≤ 9223372036854775807) (h : a ≤ 9223372036854775807 - b) (hr : a < r)
    (HA : Hid (Calls Try.prog 6 #[.int .i64 a, .int .i64 b] w fun e w' => e = .returned (.tuple #[.int .i64 r, .int .u8 0]) ∧ w' = w))
    (HB : Hid (Calls Try.prog 6 #[.int .i64 r, .int .i64 (-b)] w fun e w' => e = .returned (.tuple #[.int .i64 a, .int .u8 0]) ∧ w' = w)) :
    Calls Try.prog 4 #[.int .i64 a, .int .i64 b] w fun e w' => e = .returned (.bool true) ∧ w' = w := by
  go_enter Try.func4, Try.ntmps4
  go_wp2_with fail
  refine HA.out.mono ?_
  rintro e w' ⟨rfl, hw'⟩; subst w'
  go_wp2_with fail
  refine HB.out.mono ?_
  rintro e w' ⟨rfl, hw'⟩; subst w'
  go_wp2_with fail
  go_ret
  exact ⟨rfl, rfl⟩

theorem yes_zero (a : Int) (w : World) 
    (HA : Hid (Calls Try.prog 6 #[.int .i64 a, .int .i64 0] w fun e w' => e = .returned (.tuple #[.int .i64 a, .int .u8 0]) ∧ w' = w)) :
    Calls Try.prog 4 #[.int .i64 a, .int .i64 0] w fun e w' => e = .returned (.bool true) ∧ w' = w := by
  go_enter Try.func4, Try.ntmps4
  go_wp2_with fail
  refine HA.out.mono ?_
  rintro e w' ⟨rfl, hw'⟩; subst w'
  go_wp2_with fail
  refine HA.out.mono ?_
  rintro e w' ⟨rfl, hw'⟩; subst w'
  go_wp2_with fail
  go_ret
  exact ⟨rfl, rfl⟩

theorem yes_neg (a b r : Int) (w : World) (y0 : -9223372036854775808 < b) (y1 : b < 0) (h : -9223372036854775808 - b ≤ a) (hr : r < a)
    (HA : Hid (Calls Try.prog 6 #[.int .i64 a, .int .i64 b] w fun e w' => e = .returned (.tuple #[.int .i64 r, .int .u8 0]) ∧ w' = w))
    (HB : Hid (Calls Try.prog 6 #[.int .i64 r, .int .i64 (-b)] w fun e w' => e = .returned (.tuple #[.int .i64 a, .int .u8 0]) ∧ w' = w)) :
    Calls Try.prog 4 #[.int .i64 a, .int .i64 b] w fun e w' => e = .returned (.bool true) ∧ w' = w := by
  go_enter Try.func4, Try.ntmps4
  go_wp2_with fail
  refine HA.out.mono ?_
  rintro e w' ⟨rfl, hw'⟩; subst w'
  go_wp2_with fail
  refine HB.out.mono ?_
  rintro e w' ⟨rfl, hw'⟩; subst w'
  go_wp2_with fail
  go_ret
  exact ⟨rfl, rfl⟩

theorem yes_min (a r s : Int) (w : World) (h : 0 ≤ a) (hr : r < a)
    (HA : Hid (Calls Try.prog 6 #[.int .i64 a, .int .i64 (-9223372036854775808)] w fun e w' => e = .returned (.tuple #[.int .i64 r, .int .u8 0]) ∧ w' = w))
    (HB : Hid (Calls Try.prog 6 #[.int .i64 r, .int .i64 9223372036854775807] w fun e w' => e = .returned (.tuple #[.int .i64 s, .int .u8 0]) ∧ w' = w))
    (HC : Hid (Calls Try.prog 6 #[.int .i64 s, .int .i64 1] w fun e w' => e = .returned (.tuple #[.int .i64 a, .int .u8 0]) ∧ w' = w)) :
    Calls Try.prog 4 #[.int .i64 a, .int .i64 (-9223372036854775808)] w fun e w' => e = .returned (.bool true) ∧ w' = w := by
  go_enter Try.func4, Try.ntmps4
  go_wp2_with fail
  refine HA.out.mono ?_
  rintro e w' ⟨rfl, hw'⟩; subst w'
  go_wp2_with fail
  refine HB.out.mono ?_
  rintro e w' ⟨rfl, hw'⟩; subst w'
  go_wp2_with fail
  refine HC.out.mono ?_
  rintro e w' ⟨rfl, hw'⟩; subst w'
  go_wp2_with fail
  go_ret
  exact ⟨rfl, rfl⟩

theorem add_is (a b r : Int) (w : World) (a0 : -9223372036854775808 ≤ a) (a1 : a ≤ 9223372036854775807) (b0 : -9223372036854775808 ≤ b) (b1 : b ≤ 9223372036854775807) (hr : a + b = r) (r0 : -9223372036854775808 ≤ r) (r1 : r ≤ 9223372036854775807) :
    Calls Try.prog 6 #[.int .i64 a, .int .i64 b] w fun e w' => e = .returned (.tuple #[.int .i64 r, .int .u8 0]) ∧ w' = w := by
  subst hr
  exact add_fit a b w a0 a1 b0 b1 r0 r1

theorem undone (a b : Int) (w : World) (x0 : -9223372036854775808 ≤ a) (x1 : a ≤ 9223372036854775807) (y0 : -9223372036854775808 ≤ b) (y1 : b ≤ 9223372036854775807) :
    Calls Try.prog 4 #[.int .i64 a, .int .i64 b] w fun e w' => e = .returned (.bool true) ∧ w' = w := by
  by_cases hp : 0 < b
  · by_cases h : 9223372036854775807 - b < a
    · exact no_pos a b w hp y1 h (add_over a b w x0 x1 y0 y1 (by omega))
    · exact yes_pos a b (a + b) w hp y1 (by omega) (by omega) (add_is a b _ w x0 x1 y0 y1 rfl (by omega) (by omega)) (add_is (a + b) (-b) a w (by omega) (by omega) (by omega) (by omega) (by omega) x0 x1)
  by_cases hz : b = 0
  · subst hz
    exact yes_zero a w (add_is a 0 a w x0 x1 y0 y1 (by omega) x0 x1)
  by_cases h : a < -9223372036854775808 - b
  · exact no_neg a b w y0 (by omega) h (add_over a b w x0 x1 y0 y1 (by omega))
  by_cases hm : b = -9223372036854775808
  · subst hm
    exact yes_min a (a + -9223372036854775808) (a - 1) w (by omega) (by omega) (add_is a _ _ w x0 x1 y0 y1 rfl (by omega) (by omega)) (add_is _ 9223372036854775807 _ w (by omega) (by omega) (by omega) (by omega) (by omega) (by omega) (by omega))
      (add_is (a - 1) 1 a w (by omega) (by omega) (by omega) (by omega) (by omega) x0 x1)
  · exact yes_neg a b (a + b) w (by omega) (by omega) (by omega) (by omega) (add_is a b _ w x0 x1 y0 y1 rfl (by omega) (by omega)) (add_is (a + b) (-b) a w (by omega) (by omega) (by omega) (by omega) (by omega) x0 x1)

end Go.Proofs.Qxb6618433a.Adds
