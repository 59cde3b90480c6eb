/-
  THE SIGN OF '(a^r)&(b^r)' ON int64 (no program in sight).
-/
import Derived.WalkKit
namespace Go.Proofs.Qxb6618433a.Plain
open Go Go.RowKit

theorem wrap_toInt (X : BitVec 64) : IntKind.i64.wrap (X.toNat : Int) = X.toInt := by
  rw [IntKind.wrap_i64, BitVec.toInt_eq_toNat_cond]
  have := X.isLt
  split <;> omega

theorem xor_toInt (a b : Int) : bits .xor .i64 a b = (BitVec.ofInt 64 a ^^^ BitVec.ofInt 64 b).toInt := by
  show IntKind.i64.wrap ((BitVec.ofInt 64 a ^^^ BitVec.ofInt 64 b).toNat : Int) = _
  exact wrap_toInt _

theorem and_toInt (a b : Int) : bits .and .i64 a b = (BitVec.ofInt 64 a &&& BitVec.ofInt 64 b).toInt := by
  show IntKind.i64.wrap ((BitVec.ofInt 64 a &&& BitVec.ofInt 64 b).toNat : Int) = _
  exact wrap_toInt _

theorem toInt_neg (X : BitVec 64) : X.toInt < 0 ↔ X.msb = true := by
  rw [BitVec.msb_eq_toInt]; simp

theorem msb_ofInt {a : Int} (h0 : -9223372036854775808 ≤ a) (h1 : a ≤ 9223372036854775807) : (BitVec.ofInt 64 a).msb = decide (a < 0) := by
  rw [BitVec.msb_eq_toInt, BitVec.toInt_ofInt]
  have : a.bmod (2 ^ 64) = a := by
    rw [Int.bmod_eq_of_le] <;> omega
  rw [this]

/-- 'a sum that wrapped has the sign of neither operand': the test's own outcome. -/
theorem test_sign {a b r : Int} (a0 : -9223372036854775808 ≤ a) (a1 : a ≤ 9223372036854775807) (b0 : -9223372036854775808 ≤ b) (b1 : b ≤ 9223372036854775807) (r0 : -9223372036854775808 ≤ r) (r1 : r ≤ 9223372036854775807) :
    bits .and .i64 (bits .xor .i64 a r) (bits .xor .i64 b r) < 0 ↔ (decide (a < 0) ≠ decide (r < 0) ∧ decide (b < 0) ≠ decide (r < 0)) := by
  rw [xor_toInt, xor_toInt, and_toInt, BitVec.ofInt_toInt, BitVec.ofInt_toInt, toInt_neg, BitVec.msb_and, BitVec.msb_xor, BitVec.msb_xor, msb_ofInt a0 a1, msb_ofInt b0 b1, msb_ofInt r0 r1]
  cases decide (a < 0) <;> cases decide (b < 0) <;> cases decide (r < 0) <;> simp

theorem fit_test {a b : Int} (a0 : -9223372036854775808 ≤ a) (a1 : a ≤ 9223372036854775807) (b0 : -9223372036854775808 ≤ b) (b1 : b ≤ 9223372036854775807) (r0 : -9223372036854775808 ≤ a + b) (r1 : a + b ≤ 9223372036854775807) :
    ¬ bits .and .i64 (bits .xor .i64 a (a + b)) (bits .xor .i64 b (a + b)) < 0 := by
  rw [test_sign a0 a1 b0 b1 r0 r1]
  rintro ⟨h1, h2⟩
  by_cases ha : a < 0 <;> by_cases hb : b < 0 <;> by_cases hr : a + b < 0 <;> simp [ha, hb, hr] at h1 h2 <;> omega

theorem over_test {a b : Int} (a0 : -9223372036854775808 ≤ a) (a1 : a ≤ 9223372036854775807) (b0 : -9223372036854775808 ≤ b) (b1 : b ≤ 9223372036854775807) (h : a + b < -9223372036854775808 ∨ 9223372036854775807 < a + b) :
    bits .and .i64 (bits .xor .i64 a (wrap64 (a + b))) (bits .xor .i64 b (wrap64 (a + b))) < 0 := by
  have hw : (9223372036854775807 < a + b ∧ wrap64 (a + b) = a + b - 18446744073709551616) ∨ (a + b < -9223372036854775808 ∧ wrap64 (a + b) = a + b + 18446744073709551616) := by
    unfold wrap64; omega
  rw [test_sign a0 a1 b0 b1 (by omega) (by omega)]
  rcases hw with ⟨h1, h2⟩ | ⟨h1, h2⟩
  · have ha : ¬ a < 0 := by omega
    have hb : ¬ b < 0 := by omega
    have hr : wrap64 (a + b) < 0 := by omega
    simp [ha, hb, hr]
  · have ha : a < 0 := by omega
    have hb : b < 0 := by omega
    have hr : ¬ wrap64 (a + b) < 0 := by omega
    simp [ha, hb, hr]

end Go.Proofs.Qxb6618433a.Plain
