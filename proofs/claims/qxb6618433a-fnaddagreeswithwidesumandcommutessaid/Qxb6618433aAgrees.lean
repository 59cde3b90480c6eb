/-
  THE WALK OF FnAddAgreesWithWideSumAndCommutes: four ways through.
-/
import Derived.Test.Qxb6618433aAdd
namespace Go.Proofs.Qxb6618433a.Adds
open Go Go.RowKit

theorem fits_pos (a b lo : Int) (w : World) (h0 : 0 ≤ lo) (h1 : lo ≤ 9223372036854775807)
    (HW : Hid (Calls Try.prog 5 #[.int .i64 a, .int .i64 b] w fun e w' => e = .returned (.tuple #[.int .u64 0, .int .u64 lo]) ∧ w' = w))
    (HA : Hid (Calls Try.prog 6 #[.int .i64 a, .int .i64 b] w fun e w' => e = .returned (.tuple #[.int .i64 lo, .int .u8 0]) ∧ w' = w))
    (HB : Hid (Calls Try.prog 6 #[.int .i64 b, .int .i64 a] w fun e w' => e = .returned (.tuple #[.int .i64 lo, .int .u8 0]) ∧ w' = w)) :
    Calls Try.prog 3 #[.int .i64 a, .int .i64 b] w fun e w' => e = .returned (.bool true) ∧ w' = w := by
  go_enter Try.func3, Try.ntmps3
  go_wp2_with fail
  refine HW.out.mono ?_
  rintro e w' ⟨rfl, hw'⟩; subst w'
  go_wp2_with fail
  refine HA.out.mono ?_
  rintro e w' ⟨rfl, hw'⟩; subst w'
  go_wp2_with fail
  refine HB.out.mono ?_
  rintro e w' ⟨rfl, hw'⟩; subst w'
  go_wp2_with fail
  go_ret
  exact ⟨rfl, rfl⟩

theorem fits_neg (a b lo s : Int) (w : World) (h0 : 9223372036854775808 ≤ lo) (hs : IntKind.i64.wrap lo = s)
    (HW : Hid (Calls Try.prog 5 #[.int .i64 a, .int .i64 b] w fun e w' => e = .returned (.tuple #[.int .u64 18446744073709551615, .int .u64 lo]) ∧ w' = w))
    (HA : Hid (Calls Try.prog 6 #[.int .i64 a, .int .i64 b] w fun e w' => e = .returned (.tuple #[.int .i64 s, .int .u8 0]) ∧ w' = w))
    (HB : Hid (Calls Try.prog 6 #[.int .i64 b, .int .i64 a] w fun e w' => e = .returned (.tuple #[.int .i64 s, .int .u8 0]) ∧ w' = w)) :
    Calls Try.prog 3 #[.int .i64 a, .int .i64 b] w fun e w' => e = .returned (.bool true) ∧ w' = w := by
  go_enter Try.func3, Try.ntmps3
  go_wp2_with fail
  refine HW.out.mono ?_
  rintro e w' ⟨rfl, hw'⟩; subst w'
  go_wp2_with fail
  refine HA.out.mono ?_
  rintro e w' ⟨rfl, hw'⟩; subst w'
  go_wp2_with fail
  refine HB.out.mono ?_
  rintro e w' ⟨rfl, hw'⟩; subst w'
  go_wp2_with fail
  go_ret
  exact ⟨rfl, rfl⟩

theorem over_pos (a b lo : Int) (w : World) (h0 : 9223372036854775808 ≤ lo) (h1 : lo ≤ 18446744073709551615)
    (HW : Hid (Calls Try.prog 5 #[.int .i64 a, .int .i64 b] w fun e w' => e = .returned (.tuple #[.int .u64 0, .int .u64 lo]) ∧ w' = w))
    (HA : Hid (Calls Try.prog 6 #[.int .i64 a, .int .i64 b] w fun e w' => e = .returned (.tuple #[.int .i64 0, .int .u8 1]) ∧ w' = w))
    (HB : Hid (Calls Try.prog 6 #[.int .i64 b, .int .i64 a] w fun e w' => e = .returned (.tuple #[.int .i64 0, .int .u8 1]) ∧ w' = w)) :
    Calls Try.prog 3 #[.int .i64 a, .int .i64 b] w fun e w' => e = .returned (.bool true) ∧ w' = w := by
  go_enter Try.func3, Try.ntmps3
  go_wp2_with fail
  refine HW.out.mono ?_
  rintro e w' ⟨rfl, hw'⟩; subst w'
  go_wp2_with fail
  refine HA.out.mono ?_
  rintro e w' ⟨rfl, hw'⟩; subst w'
  go_wp2_with fail
  refine HB.out.mono ?_
  rintro e w' ⟨rfl, hw'⟩; subst w'
  go_wp2_with fail
  go_ret
  exact ⟨rfl, rfl⟩

theorem over_neg (a b lo : Int) (w : World) (h0 : 0 ≤ lo) (h1 : lo ≤ 9223372036854775807)
    (HW : Hid (Calls Try.prog 5 #[.int .i64 a, .int .i64 b] w fun e w' => e = .returned (.tuple #[.int .u64 18446744073709551615, .int .u64 lo]) ∧ w' = w))
    (HA : Hid (Calls Try.prog 6 #[.int .i64 a, .int .i64 b] w fun e w' => e = .returned (.tuple #[.int .i64 0, .int .u8 1]) ∧ w' = w))
    (HB : Hid (Calls Try.prog 6 #[.int .i64 b, .int .i64 a] w fun e w' => e = .returned (.tuple #[.int .i64 0, .int .u8 1]) ∧ w' = w)) :
    Calls Try.prog 3 #[.int .i64 a, .int .i64 b] w fun e w' => e = .returned (.bool true) ∧ w' = w := by
  go_enter Try.func3, Try.ntmps3
  go_wp2_with fail
  refine HW.out.mono ?_
  rintro e w' ⟨rfl, hw'⟩; subst w'
  go_wp2_with fail
  refine HA.out.mono ?_
  rintro e w' ⟨rfl, hw'⟩; subst w'
  go_wp2_with fail
  refine HB.out.mono ?_
  rintro e w' ⟨rfl, hw'⟩; subst w'
  go_wp2_with fail
  go_ret
  exact ⟨rfl, rfl⟩

theorem agrees (a b : Int) (w : World) (x0 : -9223372036854775808 ≤ a) (x1 : a ≤ 9223372036854775807) (y0 : -9223372036854775808 ≤ b) (y1 : b ≤ 9223372036854775807) :
    Calls Try.prog 3 #[.int .i64 a, .int .i64 b] w fun e w' => e = .returned (.bool true) ∧ w' = w := by
  have HW := wide_any a b w x0 x1 y0 y1
  have hc : b + a = a + b := Int.add_comm b a
  by_cases hs : a + b < 0
  · have e1 : hiOf (a + b) = 18446744073709551615 := by unfold hiOf; rw [if_pos hs]
    have e2 : loOf (a + b) = a + b + 18446744073709551616 := by unfold loOf; omega
    rw [e1, e2] at HW
    by_cases hf : -9223372036854775808 ≤ a + b
    · have HA := add_fit a b w x0 x1 y0 y1 hf (by omega)
      have HB := add_fit b a w y0 y1 x0 x1 (by omega) (by omega)
      rw [hc] at HB
      refine fits_neg a b _ (a + b) w (by omega) ?_ HW HA HB
      rw [IntKind.wrap_i64]
      omega
    · have HA := add_over a b w x0 x1 y0 y1 (by omega)
      have HB := add_over b a w y0 y1 x0 x1 (by omega)
      exact over_neg a b _ w (by omega) (by omega) HW HA HB
  · have e1 : hiOf (a + b) = 0 := by unfold hiOf; rw [if_neg hs]
    have e2 : loOf (a + b) = a + b := by unfold loOf; omega
    rw [e1, e2] at HW
    by_cases hf : a + b ≤ 9223372036854775807
    · have HA := add_fit a b w x0 x1 y0 y1 (by omega) hf
      have HB := add_fit b a w y0 y1 x0 x1 (by omega) (by omega)
      rw [hc] at HB
      exact fits_pos a b _ w (by omega) hf HW HA HB
    · have HA := add_over a b w x0 x1 y0 y1 (by omega)
      have HB := add_over b a w y0 y1 x0 x1 (by omega)
      exact over_pos a b _ w (by omega) (by omega) HW HA HB

end Go.Proofs.Qxb6618433a.Adds
