/-
  THE WALKS OF value.Add AND zzWideSum.
-/
import Derived.Test.Qxb6618433aRows
import Derived.Test.Qxb6618433aPlain
import Derived.WalkKit
import Derived.Laws.Bits64
namespace Go.Proofs.Qxb6618433a.Adds
open Go Go.RowKit

theorem add_fit (a b : Int) (w : World) (a0 : -9223372036854775808 ≤ a) (a1 : a ≤ 9223372036854775807) (b0 : -9223372036854775808 ≤ b) (b1 : b ≤ 9223372036854775807) (r0 : -9223372036854775808 ≤ a + b) (r1 : a + b ≤ 9223372036854775807) :
    Calls Try.prog 6 #[.int .i64 a, .int .i64 b] w fun e w' => e = .returned (.tuple #[.int .i64 (a + b), .int .u8 0]) ∧ w' = w := by
  have ht := Plain.fit_test a0 a1 b0 b1 r0 r1
  go_enter Try.func6, Try.ntmps6
  go_wp2
  go_ret2
  exact ⟨rfl, rfl⟩

theorem add_over (a b : Int) (w : World) (a0 : -9223372036854775808 ≤ a) (a1 : a ≤ 9223372036854775807) (b0 : -9223372036854775808 ≤ b) (b1 : b ≤ 9223372036854775807) (h : a + b < -9223372036854775808 ∨ 9223372036854775807 < a + b) :
    Calls Try.prog 6 #[.int .i64 a, .int .i64 b] w fun e w' => e = .returned (.tuple #[.int .i64 0, .int .u8 1]) ∧ w' = w := by
  have ht := Plain.over_test a0 a1 b0 b1 h
  go_enter Try.func6, Try.ntmps6
  go_wp2
  go_ret2
  exact ⟨rfl, rfl⟩

/-- The two words of the exact sum. -/
def hiOf (s : Int) : Int := if s < 0 then 18446744073709551615 else 0
def loOf (s : Int) : Int := s % 18446744073709551616

theorem ret2_u64 {x y x' y' : Int} (h : x = x') (h' : y = y') : Ending.returned (.tuple #[.int .u64 x, .int .u64 y]) = .returned (.tuple #[.int .u64 x', .int .u64 y']) := by rw [h, h']

theorem wide_any (a b : Int) (w : World) (a0 : -9223372036854775808 ≤ a) (a1 : a ≤ 9223372036854775807) (b0 : -9223372036854775808 ≤ b) (b1 : b ≤ 9223372036854775807) :
    Calls Try.prog 5 #[.int .i64 a, .int .i64 b] w fun e w' => e = .returned (.tuple #[.int .u64 (hiOf (a + b)), .int .u64 (loOf (a + b))]) ∧ w' = w := by
  go_enter Try.func5, Try.ntmps5
  go_wp2
  all_goals
    go_ret2
    refine ⟨ret2_u64 ?_ ?_, rfl⟩
    all_goals
      simp only [IntKind.wrap_u64, hiOf, loOf] at *
      first | omega | (split <;> omega)

end Go.Proofs.Qxb6618433a.Adds
