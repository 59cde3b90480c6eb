/-
  zzEvenRun; zzBytes.
-/
import Derived.Test.Qxb6618447aDoorRunes
namespace Go.Proofs.Qxb6618447aDoor.Glob
open Go Go.RowKit

theorem ret_bool {a b : Bool} (h : a = b) : Ending.returned (.bool a) = .returned (.bool b) := by rw [h]

theorem even_of {p : Nat → Int} {lo k c : Nat} (h : Plain.run p lo k = c) : ((c : Int) % 2 == 0) = Plain.even p lo k := by
  unfold Plain.even
  rw [h, Bool.eq_iff_iff]
  simp
  omega

set_option maxHeartbeats 1000000 in
theorem even_any (a : Option Addr) (n c b off lo k : Nat) (p : Nat → Int) (w : World) (hs : Sl w a n c b off p) (h1 : lo ≤ k) (h2 : k ≤ n) (hn : n ≤ 65536) :
    Calls Tryd.prog 8 #[.slice a n c, .int .i64 lo, .int .i64 k] w fun e w' => e = .returned (.bool (Plain.even p lo k)) ∧ w' = w := by
  have hix := hs.ix
  go_enter Tryd.func8, Tryd.ntmps8
  go_wp2
  go_loop [7, 8] (fun cc mm => ∃ (t d : Nat) (z : Int), lo ≤ t ∧ t ≤ k ∧ cc = .int .i64 d ∧ mm = .int .i64 z ∧ Hid (z = t - 1) ∧ d ≤ k ∧ Hid (Plain.run p lo k = d + Plain.run p lo t) ∧ d + t ≤ k) (fun _ mm => (intOf mm + 1).toNat)
  case atStart => exact ⟨k, 0, _, h1, Nat.le_refl _, rfl, rfl, rfl, by omega, by show Plain.run p lo k = _; omega, by omega⟩
  case round =>
  obtain ⟨t, d, z, ht1, ht2, rfl, rfl, hz, hd, hrun, hdt⟩ := hrel
  by_cases hlt : t = lo
  · have hz' : z < (lo : Int) := by have := hz.out; omega
    have hfin : Hid (Plain.run p lo k = d) := by show Plain.run p lo k = d; rw [hrun.out, hlt, Plain.run_lo]; rfl
    clear hz
    go_wp2
    go_ret
    exact ⟨ret_bool (even_of hfin.out), rfl⟩
  · obtain ⟨t, rfl⟩ : ∃ t', t = t' + 1 := ⟨t - 1, by omega⟩
    have hz' : z = (t : Int) := by have := hz.out; omega
    subst hz'
    clear hz
    have hcx := hs.cell t (by omega)
    have htn : t < n := by omega
    have hlo : (lo : Int) ≤ (t : Int) := by omega
    have hstep : Plain.run p lo (t + 1) = if p t = 92 then Plain.run p lo t + 1 else 0 := by rw [Plain.run, if_neg (by omega)]
    by_cases h92 : p t = 92
    · have hb : (p t == 92) = true := beq_iff_eq.2 h92
      have R : Hid (Plain.run p lo k = d + 1 + Plain.run p lo t) := by show Plain.run p lo k = _; rw [hrun.out, hstep, if_pos h92]; omega
      clear hstep hrun h92
      go_wp2
      go_round
      case rel => exact ⟨t, d + 1, _, by omega, by omega, by go_num, rfl, rfl, by omega, R, by omega⟩
      case measure => simp [intOf]
    · have hb : (p t == 92) = false := beq_eq_false_iff_ne.2 h92
      have hfin : Hid (Plain.run p lo k = d) := by show Plain.run p lo k = d; rw [hrun.out, hstep, if_neg h92]; rfl
      clear hstep hrun h92
      go_wp2
      go_ret
      exact ⟨ret_bool (even_of hfin.out), rfl⟩

/-- zzBytes: true, where the pattern is not too long. -/
theorem bytes_yes (a : Option Addr) (n c : Nat) (i : Int) (w : World) (hn : n ≤ 1048576) :
    Calls Tryd.prog 4 #[.slice a n c, .int .i64 i] w fun e w' => e = .returned (.bool true) ∧ w' = w := by
  go_enter Tryd.func4, Tryd.ntmps4
  go_wp2
  go_ret
  exact ⟨rfl, rfl⟩
theorem bytes_no (a : Option Addr) (n c : Nat) (i : Int) (w : World) (hn : 1048576 < n) :
    Calls Tryd.prog 4 #[.slice a n c, .int .i64 i] w fun e w' => e = .returned (.bool false) ∧ w' = w := by
  go_enter Tryd.func4, Tryd.ntmps4
  go_wp2
  go_ret
  exact ⟨rfl, rfl⟩

end Go.Proofs.Qxb6618447aDoor.Glob
