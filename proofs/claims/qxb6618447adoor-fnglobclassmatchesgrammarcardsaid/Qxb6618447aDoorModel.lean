/-
  zzGlobClassModel: the two starts (a '!' or none), then one way for each form of a class.
-/
import Derived.Test.Qxb6618447aDoorPost
import Derived.RegionTactic
namespace Go.Proofs.Qxb6618447aDoor.Glob
open Go Go.RowKit

/-- Where the model's search for the class's end stands: z is what it holds, k the next place. -/
def Found (p : Nat → Int) (j n k : Nat) (z : Int) : Prop := (z = -1 ∧ Plain.clean p j k) ∨ (∃ e0 : Nat, z = (e0 : Int) ∧ j ≤ e0 ∧ e0 < n ∧ Plain.term p j e0 ∧ Plain.clean p j e0)

set_option maxHeartbeats 4000000 in
set_option maxRecDepth 100000 in
theorem model_neg (a : Option Addr) (n c b off i : Nat) (p : Nat → Int) (w : World) (hs : Sl w a n c b off p) (hn : n ≤ 4096) (hin : i < n) (h33 : p i = 33) :
    Calls Tryd.prog 5 #[.slice a n c, .int .i64 i] w fun e w' => SaidAt p n (i + 1) [94] e ∧ Below w.heap.size w w' := by
  have hix := hs.ix
  have hcx := hs.cell i hin
  have hb33 : (p i == 33) = true := beq_iff_eq.2 h33
  have hini : (i : Int) < (n : Int) := by omega
  clear h33
  go_enter Tryd.func5, Tryd.ntmps5
  go_wp2_with (at_builtin; refine row_append rfl rfl _ _ rfl w.heap.size _ [] rfl (World.ownsRow.alloc (row_nil w.heap.size w) _) ⟨w.heap.size, 0, none⟩ 1 1 [91] rfl rfl ?c1 ?c2 ?c3 ?_)
  case c1 => exact news_new w _ _ rfl
  case c2 => simp
  case c3 => simp
  intro v0 w0 h0 hg0
  have B0 : Below w.heap.size w w0 := ((Below.refl _ w).alloc (Nat.le_refl _) _).grown hg0 (by simp) (fun k hk => by cases hk)
  have s0 : w.heap.size ≤ w0.heap.size := B0.size
  have g0 : Row w.heap.size w0 v0 [91] := by simpa using h0
  clear h0 hg0
  go_wp2_with (at_builtin; refine row_append rfl rfl _ _ rfl w.heap.size v0 [91] rfl (World.ownsRow.alloc g0 _) ⟨w0.heap.size, 0, none⟩ 1 1 [94] rfl rfl ?c1 ?c2 ?c3 ?_)
  case c1 => exact news_new w0 _ _ rfl
  case c2 => simp
  case c3 => simp; omega
  intro v1 w1 h1 hg1
  have B1 : Below w.heap.size w w1 := B0.trans (((Below.refl _ w0).alloc s0 _).grown hg1 (by simp; omega) (fun k hk => (World.ownsRow.lt g0 k hk).1))
  have g1 : Row w.heap.size w1 v1 ([91] ++ [94]) := by simpa using h1
  clear h1 hg1 g0 B0 s0 hcx hb33 hini
  rw [show (i : Int) + 1 = ((i + 1 : Nat) : Int) from by omega]
  have hj : i + 1 ≤ n := by omega
  clear hin
  generalize hjj : i + 1 = j at *
  have HJ : Hid (i + 1 = j) := hjj
  clear hjj
  have S1 : Sl w1 a n c b off p := hs.later B1
  have s1 : w.heap.size ≤ w1.heap.size := B1.size
  have hlen1 : ([91] ++ [94] : List UInt8).length ≤ 2 := by decide
  by_cases hrng : Plain.rng p n j
  · have ix1 := hs.ixz (j + 1) hrng.1 (z := (j : Int) + 1) (by omega)
    have c1 := S1.cell (j + 1) hrng.1
    have b45 : (p (j + 1) == 45) = true := beq_iff_eq.2 hrng.2
    have l1 : (j : Int) + 1 < (n : Int) := by have := hrng.1; omega
    have HR : Hid (Plain.rng p n j) := hrng
    clear hrng
    by_cases ho1 : j + 3 < n
    · have ix3 := hs.ixz (j + 3) ho1 (z := (j : Int) + 3) (by omega)
      have c3 := S1.cell (j + 3) ho1
      have l3 : (j : Int) + 3 < (n : Int) := by omega
      by_cases ho2 : p (j + 3) = 93
      · have b93 : (p (j + 3) == 93) = true := beq_iff_eq.2 ho2
        have HO : Hid (Plain.rngOk p n j) := ⟨ho1, ho2⟩
        clear ho2
        have c0 := S1.cell j (by omega)
        have jlt : j < n := by omega
        go_wp2_with fail
        refine (point_any w.heap.size v1 _ (p j) w1 g1 (by omega) s1 (hs.lo j) (hs.hi j)).mono ?_
        rintro e w2 ⟨v2, rfl, g2, B2⟩
        have s2 : w.heap.size ≤ w2.heap.size := Nat.le_trans s1 B2.size
        have q0 := Plain.point_len (p j)
        go_wp2_with (at_builtin; refine row_append rfl rfl _ _ rfl w.heap.size v2 _ rfl (World.ownsRow.alloc g2 _) ⟨w2.heap.size, 0, none⟩ 1 1 [45] rfl rfl ?c1 ?c2 ?c3 ?_)
        case c1 => exact news_new w2 _ _ rfl
        case c2 => simp; omega
        case c3 => simp; omega
        intro v3 w3 g3 hg3
        have B3 : Below w.heap.size w2 w3 := ((Below.refl _ w2).alloc s2 _).grown hg3 (by simp; omega) (fun k hk => (World.ownsRow.lt g2 k hk).1)
        have s3 : w.heap.size ≤ w3.heap.size := Nat.le_trans s2 B3.size
        have S3 : Sl w3 a n c b off p := hs.later ((B1.trans B2).trans B3)
        have c2 := S3.cell (j + 2) (by omega)
        have ix2 := hs.ixz (j + 2) (by omega) (z := (j : Int) + 2) (by omega)
        clear hg3
        go_wp2_with fail
        refine (point_any w.heap.size v3 _ (p (j + 2)) w3 g3 (by simp; omega) s3 (hs.lo (j + 2)) (hs.hi (j + 2))).mono ?_
        rintro e w4 ⟨v4, rfl, g4, B4⟩
        have s4 : w.heap.size ≤ w4.heap.size := Nat.le_trans s3 B4.size
        have q2 := Plain.point_len (p (j + 2))
        go_wp2_with (at_builtin; refine row_append rfl rfl _ _ rfl w.heap.size v4 _ rfl (World.ownsRow.alloc g4 _) ⟨w4.heap.size, 0, none⟩ 1 1 [93] rfl rfl ?c1 ?c2 ?c3 ?_)
        case c1 => exact news_new w4 _ _ rfl
        case c2 => simp; omega
        case c3 => simp; omega
        intro v5 w5 g5 hg5
        have B5 : Below w.heap.size w4 w5 := ((Below.refl _ w4).alloc s4 _).grown hg5 (by simp; omega) (fun k hk => (World.ownsRow.lt g4 k hk).1)
        have g6 : Row w.heap.size w5.drew v5 ([91] ++ [94] ++ (Plain.point (p j) ++ ([45] ++ (Plain.point (p (j + 2)) ++ [93])))) := by show Row w.heap.size w5 v5 _; simpa using g5
        have hcv := row_conv g6 (by simp)
        have BA : Hid (Below w.heap.size w w5) := (((B1.trans B2).trans B3).trans B4).trans B5
        clear hg5 g5 g6 g4 g3 g2 g1 B1 B2 B3 B4 B5
        generalize hS : ([91] ++ [94] ++ (Plain.point (p j) ++ ([45] ++ (Plain.point (p (j + 2)) ++ [93])))) = S at hcv
        have HS : Hid (S = [91] ++ [94] ++ (Plain.point (p j) ++ ([45] ++ (Plain.point (p (j + 2)) ++ [93])))) := hS.symm
        clear hS
        go_wp2_with fail
        go_region
        go_wp2_with fail
        go_ret3
        refine ⟨?_, BA.out.drew⟩
        rw [HJ.out]
        exact said_range HR.out HO.out HS.out
      · have b93 : (p (j + 3) == 93) = false := beq_eq_false_iff_ne.2 ho2
        have HO : Hid (¬ Plain.rngOk p n j) := fun h => ho2 h.2
        clear ho2
        go_wp2_with fail
        go_ret3
        refine ⟨?_, B1⟩
        rw [HJ.out]
        exact said_norange HR.out HO.out
    · have l3 : ¬ (j : Int) + 3 < (n : Int) := by omega
      have HO : Hid (¬ Plain.rngOk p n j) := fun h => ho1 h.1
      go_wp2_with fail
      go_ret3
      refine ⟨?_, B1⟩
      rw [HJ.out]
      exact said_norange HR.out HO.out
  have HR : Hid (¬ Plain.rng p n j) := hrng
  by_cases l1' : j + 1 < n
  · have ix1 := hs.ixz (j + 1) l1' (z := (j : Int) + 1) (by omega)
    have c1 := S1.cell (j + 1) l1'
    have b45 : (p (j + 1) == 45) = false := beq_eq_false_iff_ne.2 (fun h => hrng ⟨l1', h⟩)
    have l1 : (j : Int) + 1 < (n : Int) := by omega
    clear hrng
    go_wp2_with fail
    go_loop [11, 12] (fun ee kk => ∃ (k : Nat) (z : Int), j ≤ k ∧ k ≤ n ∧ kk = .int .i64 k ∧ ee = .int .i64 z ∧ Hid (Found p j n k z)) (fun _ kk => n - (intOf kk).toNat)
    case atStart => exact ⟨j, -1, Nat.le_refl _, hj, rfl, rfl, .inl ⟨rfl, Plain.clean_lo p j⟩⟩
    case round =>
    obtain ⟨k, z, hk1, hk2, rfl, rfl, hF⟩ := hrel
    rcases hF.out with ⟨rfl, hcl⟩ | ⟨e0, rfl, he1, he2, he3, he4⟩
    · clear hF
      have HCl : Hid (Plain.clean p j k) := hcl
      clear hcl
      by_cases hkn : k < n
      · have hck := S1.cell k hkn
        by_cases h93 : p k = 93
        · have HE := even_any a n c b off j k p w1 S1 hk1 (by omega) (by omega)
          have b93 : (p k == 93) = true := beq_iff_eq.2 h93
          cases hev : Plain.even p j k
          · rw [hev] at HE
            have HE' : Hid (Calls Tryd.prog 8 _ _ _) := HE
            have R : Hid (Found p j n (k + 1) (-1)) := .inl ⟨rfl, Plain.clean_step HCl.out (fun h => by have := h.2; rw [hev] at this; cases this)⟩
            clear HE hev h93
            go_wp2_with fail
            refine HE'.out.mono ?_
            rintro e w' ⟨rfl, hw'⟩; subst w'
            go_wp2_with fail
            go_round
            case rel => exact ⟨k + 1, -1, by omega, by omega, by go_num, rfl, R⟩
            case measure => simp [intOf]; omega
          · rw [hev] at HE
            have HE' : Hid (Calls Tryd.prog 8 _ _ _) := HE
            have R : Hid (Found p j n (k + 1) (k : Int)) := .inr ⟨k, rfl, hk1, hkn, ⟨h93, hev⟩, HCl.out⟩
            clear HE hev h93
            go_wp2_with fail
            refine HE'.out.mono ?_
            rintro e w' ⟨rfl, hw'⟩; subst w'
            go_wp2_with fail
            go_round
            case rel => exact ⟨k + 1, (k : Int), by omega, by omega, by go_num, rfl, R⟩
            case measure => simp [intOf]; omega
        · have b93 : (p k == 93) = false := beq_eq_false_iff_ne.2 h93
          have R : Hid (Found p j n (k + 1) (-1)) := .inl ⟨rfl, Plain.clean_step HCl.out (fun h => h93 h.1)⟩
          clear h93
          go_wp2_with fail
          go_round
          case rel => exact ⟨k + 1, -1, by omega, by omega, by go_num, rfl, R⟩
          case measure => simp [intOf]; omega
      · have hkn' : k = n := by omega
        have HX : Hid (∀ e, j < e → e < n → Plain.term p j e → ¬ Plain.clean p j e) := fun e h1 h2 h3 _ => HCl.out e (by omega) (by omega) h3
        go_wp2_with fail
        go_ret3
        refine ⟨?_, B1⟩
        rw [HJ.out]
        exact said_nolist HR.out HX.out
    clear hF
    by_cases hej : e0 = j
    · have HX : Hid (∀ e, j < e → e < n → Plain.term p j e → ¬ Plain.clean p j e) := fun e h1 _ _ h4 => h4 j (Nat.le_refl _) h1 (hej ▸ he3)
      have he0 : (e0 : Int) ≤ (j : Int) := by omega
      clear hej
      by_cases hkn : k < n
      all_goals
        go_wp2_with fail
        go_ret3
        refine ⟨?_, B1⟩
        rw [HJ.out]
        exact said_nolist HR.out HX.out
    have hje : j < e0 := by omega
    have HT : Hid (Plain.term p j e0) := he3
    have HC : Hid (Plain.clean p j e0) := he4
    clear he3 he4 hej he1
    by_cases hkn : k < n
    all_goals
      go_wp2_with fail
      go_loopw [10, 13] (fun bb kk wr => ∃ (t : Nat) (v : Value), j ≤ t ∧ t ≤ e0 ∧ kk = .int .i64 t ∧ v = bb ∧ Hid (Row w.heap.size wr v ([91] ++ [94] ++ Plain.points (Plain.mem p j t))) ∧ Hid (Below w.heap.size w wr)) (fun _ kk _ => e0 - (intOf kk).toNat)
      case atStart => exact ⟨j, _, Nat.le_refl _, by omega, rfl, rfl, by rw [Plain.mem_lo, Plain.points_nil]; simpa [Hid] using g1, B1⟩
      case round =>
      obtain ⟨t, v, ht1, ht2, rfl, rfl, hR, hB⟩ := hrel
      have hlt : (Plain.points (Plain.mem p j t)).length ≤ 21 * t := by
        have q1 := Plain.points_len (Plain.mem p j t)
        have q2 := Plain.mem_len p j t
        omega
      have hsw : w.heap.size ≤ wr.heap.size := hB.out.size
      by_cases hte : t < e0
      · have Sr : Sl wr a n c b off p := hs.later hB.out
        have hct := Sr.cell t (by omega)
        have htn : t < n := by omega
        have hlo := hs.lo t
        have hhi := hs.hi t
        by_cases h92 : p t = 92
        · have HE := even_any a n c b off j t p wr Sr ht1 (by omega) (by omega)
          have b92 : (p t == 92) = true := beq_iff_eq.2 h92
          cases hev : Plain.even p j t
          · rw [hev] at HE
            have HE' : Hid (Calls Tryd.prog 8 _ _ _) := HE
            have hm : Hid (Plain.mem p j (t + 1) = Plain.mem p j t ++ [p t]) := Plain.mem_take p j t ht1 (fun h => by rw [hev] at h; cases h.2)
            clear HE hev h92
            go_wp2_with fail
            refine HE'.out.mono ?_
            rintro e w' ⟨rfl, hw'⟩; subst w'
            go_wp2_with fail
            refine (point_any w.heap.size v _ (p t) wr hR.out (by simp; omega) hsw hlo hhi).mono ?_
            rintro e w2 ⟨v2, rfl, g2, B2⟩
            have R2 : Hid (Row w.heap.size w2 v2 ([91] ++ [94] ++ Plain.points (Plain.mem p j (t + 1)))) := by show Row _ _ _ _; rw [hm.out, Plain.points_snoc]; simpa using g2
            have R3 : Hid (Below w.heap.size w w2) := hB.out.trans B2
            clear g2 B2
            go_wp2_with fail
            go_roundw
            case rel => exact ⟨t + 1, v2, by omega, by omega, by go_num, rfl, R2, R3⟩
            case measure => simp [intOf]; omega
          · rw [hev] at HE
            have HE' : Hid (Calls Tryd.prog 8 _ _ _) := HE
            have R2 : Hid (Row w.heap.size wr v ([91] ++ [94] ++ Plain.points (Plain.mem p j (t + 1)))) := by show Row _ _ _ _; rw [Plain.mem_skip p j t ht1 h92 hev]; exact hR.out
            clear HE hev h92
            go_wp2_with fail
            refine HE'.out.mono ?_
            rintro e w' ⟨rfl, hw'⟩; subst w'
            go_wp2_with fail
            go_roundw
            case rel => exact ⟨t + 1, v, by omega, by omega, by go_num, rfl, R2, hB⟩
            case measure => simp [intOf]; omega
        · have b92 : (p t == 92) = false := beq_eq_false_iff_ne.2 h92
          have hm : Hid (Plain.mem p j (t + 1) = Plain.mem p j t ++ [p t]) := Plain.mem_take p j t ht1 (fun h => h92 h.1)
          clear h92
          go_wp2_with fail
          refine (point_any w.heap.size v _ (p t) wr hR.out (by simp; omega) hsw hlo hhi).mono ?_
          rintro e w2 ⟨v2, rfl, g2, B2⟩
          have R2 : Hid (Row w.heap.size w2 v2 ([91] ++ [94] ++ Plain.points (Plain.mem p j (t + 1)))) := by show Row _ _ _ _; rw [hm.out, Plain.points_snoc]; simpa using g2
          have R3 : Hid (Below w.heap.size w w2) := hB.out.trans B2
          clear g2 B2
          go_wp2_with fail
          go_roundw
          case rel => exact ⟨t + 1, v2, by omega, by omega, by go_num, rfl, R2, R3⟩
          case measure => simp [intOf]; omega
      have hte' : t = e0 := by omega
      subst hte'
      have g2 := hR.out
      go_wp2_with (at_builtin; refine row_append rfl rfl _ _ rfl w.heap.size v _ rfl (World.ownsRow.alloc g2 _) ⟨wr.heap.size, 0, none⟩ 1 1 [93] rfl rfl ?c1 ?c2 ?c3 ?_)
      case c1 => exact news_new wr _ _ rfl
      case c2 => simp; omega
      case c3 => simp; omega
      intro v5 w5 g5 hg5
      have B5 : Below w.heap.size wr w5 := ((Below.refl _ wr).alloc hsw _).grown hg5 (by simp; omega) (fun k hk => (World.ownsRow.lt g2 k hk).1)
      have g6 : Row w.heap.size w5.drew v5 ([91] ++ [94] ++ (Plain.points (Plain.mem p j t) ++ [93])) := by show Row w.heap.size w5 v5 _; simpa using g5
      have hcv := row_conv g6 (by simp)
      have BA : Hid (Below w.heap.size w w5) := hB.out.trans B5
      clear hg5 g5 g6 g2 g1 B1 B5
      generalize hS : ([91] ++ [94] ++ (Plain.points (Plain.mem p j t) ++ [93])) = S at hcv
      have HS : Hid (S = [91] ++ [94] ++ (Plain.points (Plain.mem p j t) ++ [93])) := hS.symm
      clear hS
      go_wp2_with fail
      go_region
      go_wp2_with fail
      go_ret3
      refine ⟨?_, BA.out.drew⟩
      rw [HJ.out]
      exact said_list HR.out hje he2 HT.out HC.out HS.out

  · have l1 : ¬ (j : Int) + 1 < (n : Int) := by omega
    clear hrng
    go_wp2_with fail
    go_loop [11, 12] (fun ee kk => ∃ (k : Nat) (z : Int), j ≤ k ∧ k ≤ n ∧ kk = .int .i64 k ∧ ee = .int .i64 z ∧ Hid (Found p j n k z)) (fun _ kk => n - (intOf kk).toNat)
    case atStart => exact ⟨j, -1, Nat.le_refl _, hj, rfl, rfl, .inl ⟨rfl, Plain.clean_lo p j⟩⟩
    case round =>
    obtain ⟨k, z, hk1, hk2, rfl, rfl, hF⟩ := hrel
    rcases hF.out with ⟨rfl, hcl⟩ | ⟨e0, rfl, he1, he2, he3, he4⟩
    · clear hF
      have HCl : Hid (Plain.clean p j k) := hcl
      clear hcl
      by_cases hkn : k < n
      · have hck := S1.cell k hkn
        by_cases h93 : p k = 93
        · have HE := even_any a n c b off j k p w1 S1 hk1 (by omega) (by omega)
          have b93 : (p k == 93) = true := beq_iff_eq.2 h93
          cases hev : Plain.even p j k
          · rw [hev] at HE
            have HE' : Hid (Calls Tryd.prog 8 _ _ _) := HE
            have R : Hid (Found p j n (k + 1) (-1)) := .inl ⟨rfl, Plain.clean_step HCl.out (fun h => by have := h.2; rw [hev] at this; cases this)⟩
            clear HE hev h93
            go_wp2_with fail
            refine HE'.out.mono ?_
            rintro e w' ⟨rfl, hw'⟩; subst w'
            go_wp2_with fail
            go_round
            case rel => exact ⟨k + 1, -1, by omega, by omega, by go_num, rfl, R⟩
            case measure => simp [intOf]; omega
          · rw [hev] at HE
            have HE' : Hid (Calls Tryd.prog 8 _ _ _) := HE
            have R : Hid (Found p j n (k + 1) (k : Int)) := .inr ⟨k, rfl, hk1, hkn, ⟨h93, hev⟩, HCl.out⟩
            clear HE hev h93
            go_wp2_with fail
            refine HE'.out.mono ?_
            rintro e w' ⟨rfl, hw'⟩; subst w'
            go_wp2_with fail
            go_round
            case rel => exact ⟨k + 1, (k : Int), by omega, by omega, by go_num, rfl, R⟩
            case measure => simp [intOf]; omega
        · have b93 : (p k == 93) = false := beq_eq_false_iff_ne.2 h93
          have R : Hid (Found p j n (k + 1) (-1)) := .inl ⟨rfl, Plain.clean_step HCl.out (fun h => h93 h.1)⟩
          clear h93
          go_wp2_with fail
          go_round
          case rel => exact ⟨k + 1, -1, by omega, by omega, by go_num, rfl, R⟩
          case measure => simp [intOf]; omega
      · have hkn' : k = n := by omega
        have HX : Hid (∀ e, j < e → e < n → Plain.term p j e → ¬ Plain.clean p j e) := fun e h1 h2 h3 _ => HCl.out e (by omega) (by omega) h3
        go_wp2_with fail
        go_ret3
        refine ⟨?_, B1⟩
        rw [HJ.out]
        exact said_nolist HR.out HX.out
    clear hF
    have HX : Hid (∀ e, j < e → e < n → Plain.term p j e → ¬ Plain.clean p j e) := fun e h1 h2 _ _ => by omega
    have he0 : (e0 : Int) ≤ (j : Int) := by omega
    by_cases hkn : k < n
    all_goals
      go_wp2_with fail
      go_ret3
      refine ⟨?_, B1⟩
      rw [HJ.out]
      exact said_nolist HR.out HX.out

set_option maxHeartbeats 4000000 in
set_option maxRecDepth 100000 in
theorem model_pos (a : Option Addr) (n c b off j : Nat) (p : Nat → Int) (w : World) (hs : Sl w a n c b off p) (hn : n ≤ 4096) (hin : j < n) (h33 : p j ≠ 33) :
    Calls Tryd.prog 5 #[.slice a n c, .int .i64 j] w fun e w' => SaidAt p n j [] e ∧ Below w.heap.size w w' := by
  have hix := hs.ix
  have hcx := hs.cell j hin
  have hb33 : (p j == 33) = false := beq_eq_false_iff_ne.2 h33
  have hini : (j : Int) < (n : Int) := by omega
  clear h33
  go_enter Tryd.func5, Tryd.ntmps5
  go_wp2_with (at_builtin; refine row_append rfl rfl _ _ rfl w.heap.size _ [] rfl (World.ownsRow.alloc (row_nil w.heap.size w) _) ⟨w.heap.size, 0, none⟩ 1 1 [91] rfl rfl ?c1 ?c2 ?c3 ?_)
  case c1 => exact news_new w _ _ rfl
  case c2 => simp
  case c3 => simp
  intro v1 w1 h0 hg0
  have B1 : Below w.heap.size w w1 := ((Below.refl _ w).alloc (Nat.le_refl _) _).grown hg0 (by simp) (fun k hk => by cases hk)
  have g1 : Row w.heap.size w1 v1 ([91] ++ []) := by simpa using h0
  have hj : j ≤ n := by omega
  clear h0 hg0 hcx hb33 hini
  have S1 : Sl w1 a n c b off p := hs.later B1
  have s1 : w.heap.size ≤ w1.heap.size := B1.size
  have hlen1 : ([91] ++ [] : List UInt8).length ≤ 2 := by decide
  by_cases hrng : Plain.rng p n j
  · have ix1 := hs.ixz (j + 1) hrng.1 (z := (j : Int) + 1) (by omega)
    have c1 := S1.cell (j + 1) hrng.1
    have b45 : (p (j + 1) == 45) = true := beq_iff_eq.2 hrng.2
    have l1 : (j : Int) + 1 < (n : Int) := by have := hrng.1; omega
    have HR : Hid (Plain.rng p n j) := hrng
    clear hrng
    by_cases ho1 : j + 3 < n
    · have ix3 := hs.ixz (j + 3) ho1 (z := (j : Int) + 3) (by omega)
      have c3 := S1.cell (j + 3) ho1
      have l3 : (j : Int) + 3 < (n : Int) := by omega
      by_cases ho2 : p (j + 3) = 93
      · have b93 : (p (j + 3) == 93) = true := beq_iff_eq.2 ho2
        have HO : Hid (Plain.rngOk p n j) := ⟨ho1, ho2⟩
        clear ho2
        have c0 := S1.cell j (by omega)
        have jlt : j < n := by omega
        go_wp2_with fail
        refine (point_any w.heap.size v1 _ (p j) w1 g1 (by omega) s1 (hs.lo j) (hs.hi j)).mono ?_
        rintro e w2 ⟨v2, rfl, g2, B2⟩
        have s2 : w.heap.size ≤ w2.heap.size := Nat.le_trans s1 B2.size
        have q0 := Plain.point_len (p j)
        go_wp2_with (at_builtin; refine row_append rfl rfl _ _ rfl w.heap.size v2 _ rfl (World.ownsRow.alloc g2 _) ⟨w2.heap.size, 0, none⟩ 1 1 [45] rfl rfl ?c1 ?c2 ?c3 ?_)
        case c1 => exact news_new w2 _ _ rfl
        case c2 => simp; omega
        case c3 => simp; omega
        intro v3 w3 g3 hg3
        have B3 : Below w.heap.size w2 w3 := ((Below.refl _ w2).alloc s2 _).grown hg3 (by simp; omega) (fun k hk => (World.ownsRow.lt g2 k hk).1)
        have s3 : w.heap.size ≤ w3.heap.size := Nat.le_trans s2 B3.size
        have S3 : Sl w3 a n c b off p := hs.later ((B1.trans B2).trans B3)
        have c2 := S3.cell (j + 2) (by omega)
        have ix2 := hs.ixz (j + 2) (by omega) (z := (j : Int) + 2) (by omega)
        clear hg3
        go_wp2_with fail
        refine (point_any w.heap.size v3 _ (p (j + 2)) w3 g3 (by simp; omega) s3 (hs.lo (j + 2)) (hs.hi (j + 2))).mono ?_
        rintro e w4 ⟨v4, rfl, g4, B4⟩
        have s4 : w.heap.size ≤ w4.heap.size := Nat.le_trans s3 B4.size
        have q2 := Plain.point_len (p (j + 2))
        go_wp2_with (at_builtin; refine row_append rfl rfl _ _ rfl w.heap.size v4 _ rfl (World.ownsRow.alloc g4 _) ⟨w4.heap.size, 0, none⟩ 1 1 [93] rfl rfl ?c1 ?c2 ?c3 ?_)
        case c1 => exact news_new w4 _ _ rfl
        case c2 => simp; omega
        case c3 => simp; omega
        intro v5 w5 g5 hg5
        have B5 : Below w.heap.size w4 w5 := ((Below.refl _ w4).alloc s4 _).grown hg5 (by simp; omega) (fun k hk => (World.ownsRow.lt g4 k hk).1)
        have g6 : Row w.heap.size w5.drew v5 ([91] ++ [] ++ (Plain.point (p j) ++ ([45] ++ (Plain.point (p (j + 2)) ++ [93])))) := by show Row w.heap.size w5 v5 _; simpa using g5
        have hcv := row_conv g6 (by simp)
        have BA : Hid (Below w.heap.size w w5) := (((B1.trans B2).trans B3).trans B4).trans B5
        clear hg5 g5 g6 g4 g3 g2 g1 B1 B2 B3 B4 B5
        generalize hS : ([91] ++ [] ++ (Plain.point (p j) ++ ([45] ++ (Plain.point (p (j + 2)) ++ [93])))) = S at hcv
        have HS : Hid (S = [91] ++ [] ++ (Plain.point (p j) ++ ([45] ++ (Plain.point (p (j + 2)) ++ [93])))) := hS.symm
        clear hS
        go_wp2_with fail
        go_region
        go_wp2_with fail
        go_ret3
        refine ⟨?_, BA.out.drew⟩
        exact said_range HR.out HO.out HS.out
      · have b93 : (p (j + 3) == 93) = false := beq_eq_false_iff_ne.2 ho2
        have HO : Hid (¬ Plain.rngOk p n j) := fun h => ho2 h.2
        clear ho2
        go_wp2_with fail
        go_ret3
        refine ⟨?_, B1⟩
        exact said_norange HR.out HO.out
    · have l3 : ¬ (j : Int) + 3 < (n : Int) := by omega
      have HO : Hid (¬ Plain.rngOk p n j) := fun h => ho1 h.1
      go_wp2_with fail
      go_ret3
      refine ⟨?_, B1⟩
      exact said_norange HR.out HO.out
  have HR : Hid (¬ Plain.rng p n j) := hrng
  by_cases l1' : j + 1 < n
  · have ix1 := hs.ixz (j + 1) l1' (z := (j : Int) + 1) (by omega)
    have c1 := S1.cell (j + 1) l1'
    have b45 : (p (j + 1) == 45) = false := beq_eq_false_iff_ne.2 (fun h => hrng ⟨l1', h⟩)
    have l1 : (j : Int) + 1 < (n : Int) := by omega
    clear hrng
    go_wp2_with fail
    go_loop [11, 12] (fun ee kk => ∃ (k : Nat) (z : Int), j ≤ k ∧ k ≤ n ∧ kk = .int .i64 k ∧ ee = .int .i64 z ∧ Hid (Found p j n k z)) (fun _ kk => n - (intOf kk).toNat)
    case atStart => exact ⟨j, -1, Nat.le_refl _, hj, rfl, rfl, .inl ⟨rfl, Plain.clean_lo p j⟩⟩
    case round =>
    obtain ⟨k, z, hk1, hk2, rfl, rfl, hF⟩ := hrel
    rcases hF.out with ⟨rfl, hcl⟩ | ⟨e0, rfl, he1, he2, he3, he4⟩
    · clear hF
      have HCl : Hid (Plain.clean p j k) := hcl
      clear hcl
      by_cases hkn : k < n
      · have hck := S1.cell k hkn
        by_cases h93 : p k = 93
        · have HE := even_any a n c b off j k p w1 S1 hk1 (by omega) (by omega)
          have b93 : (p k == 93) = true := beq_iff_eq.2 h93
          cases hev : Plain.even p j k
          · rw [hev] at HE
            have HE' : Hid (Calls Tryd.prog 8 _ _ _) := HE
            have R : Hid (Found p j n (k + 1) (-1)) := .inl ⟨rfl, Plain.clean_step HCl.out (fun h => by have := h.2; rw [hev] at this; cases this)⟩
            clear HE hev h93
            go_wp2_with fail
            refine HE'.out.mono ?_
            rintro e w' ⟨rfl, hw'⟩; subst w'
            go_wp2_with fail
            go_round
            case rel => exact ⟨k + 1, -1, by omega, by omega, by go_num, rfl, R⟩
            case measure => simp [intOf]; omega
          · rw [hev] at HE
            have HE' : Hid (Calls Tryd.prog 8 _ _ _) := HE
            have R : Hid (Found p j n (k + 1) (k : Int)) := .inr ⟨k, rfl, hk1, hkn, ⟨h93, hev⟩, HCl.out⟩
            clear HE hev h93
            go_wp2_with fail
            refine HE'.out.mono ?_
            rintro e w' ⟨rfl, hw'⟩; subst w'
            go_wp2_with fail
            go_round
            case rel => exact ⟨k + 1, (k : Int), by omega, by omega, by go_num, rfl, R⟩
            case measure => simp [intOf]; omega
        · have b93 : (p k == 93) = false := beq_eq_false_iff_ne.2 h93
          have R : Hid (Found p j n (k + 1) (-1)) := .inl ⟨rfl, Plain.clean_step HCl.out (fun h => h93 h.1)⟩
          clear h93
          go_wp2_with fail
          go_round
          case rel => exact ⟨k + 1, -1, by omega, by omega, by go_num, rfl, R⟩
          case measure => simp [intOf]; omega
      · have hkn' : k = n := by omega
        have HX : Hid (∀ e, j < e → e < n → Plain.term p j e → ¬ Plain.clean p j e) := fun e h1 h2 h3 _ => HCl.out e (by omega) (by omega) h3
        go_wp2_with fail
        go_ret3
        refine ⟨?_, B1⟩
        exact said_nolist HR.out HX.out
    clear hF
    by_cases hej : e0 = j
    · have HX : Hid (∀ e, j < e → e < n → Plain.term p j e → ¬ Plain.clean p j e) := fun e h1 _ _ h4 => h4 j (Nat.le_refl _) h1 (hej ▸ he3)
      have he0 : (e0 : Int) ≤ (j : Int) := by omega
      clear hej
      by_cases hkn : k < n
      all_goals
        go_wp2_with fail
        go_ret3
        refine ⟨?_, B1⟩
        exact said_nolist HR.out HX.out
    have hje : j < e0 := by omega
    have HT : Hid (Plain.term p j e0) := he3
    have HC : Hid (Plain.clean p j e0) := he4
    clear he3 he4 hej he1
    by_cases hkn : k < n
    all_goals
      go_wp2_with fail
      go_loopw [10, 13] (fun bb kk wr => ∃ (t : Nat) (v : Value), j ≤ t ∧ t ≤ e0 ∧ kk = .int .i64 t ∧ v = bb ∧ Hid (Row w.heap.size wr v ([91] ++ [] ++ Plain.points (Plain.mem p j t))) ∧ Hid (Below w.heap.size w wr)) (fun _ kk _ => e0 - (intOf kk).toNat)
      case atStart => exact ⟨j, _, Nat.le_refl _, by omega, rfl, rfl, by rw [Plain.mem_lo, Plain.points_nil]; simpa [Hid] using g1, B1⟩
      case round =>
      obtain ⟨t, v, ht1, ht2, rfl, rfl, hR, hB⟩ := hrel
      have hlt : (Plain.points (Plain.mem p j t)).length ≤ 21 * t := by
        have q1 := Plain.points_len (Plain.mem p j t)
        have q2 := Plain.mem_len p j t
        omega
      have hsw : w.heap.size ≤ wr.heap.size := hB.out.size
      by_cases hte : t < e0
      · have Sr : Sl wr a n c b off p := hs.later hB.out
        have hct := Sr.cell t (by omega)
        have htn : t < n := by omega
        have hlo := hs.lo t
        have hhi := hs.hi t
        by_cases h92 : p t = 92
        · have HE := even_any a n c b off j t p wr Sr ht1 (by omega) (by omega)
          have b92 : (p t == 92) = true := beq_iff_eq.2 h92
          cases hev : Plain.even p j t
          · rw [hev] at HE
            have HE' : Hid (Calls Tryd.prog 8 _ _ _) := HE
            have hm : Hid (Plain.mem p j (t + 1) = Plain.mem p j t ++ [p t]) := Plain.mem_take p j t ht1 (fun h => by rw [hev] at h; cases h.2)
            clear HE hev h92
            go_wp2_with fail
            refine HE'.out.mono ?_
            rintro e w' ⟨rfl, hw'⟩; subst w'
            go_wp2_with fail
            refine (point_any w.heap.size v _ (p t) wr hR.out (by simp; omega) hsw hlo hhi).mono ?_
            rintro e w2 ⟨v2, rfl, g2, B2⟩
            have R2 : Hid (Row w.heap.size w2 v2 ([91] ++ [] ++ Plain.points (Plain.mem p j (t + 1)))) := by show Row _ _ _ _; rw [hm.out, Plain.points_snoc]; simpa using g2
            have R3 : Hid (Below w.heap.size w w2) := hB.out.trans B2
            clear g2 B2
            go_wp2_with fail
            go_roundw
            case rel => exact ⟨t + 1, v2, by omega, by omega, by go_num, rfl, R2, R3⟩
            case measure => simp [intOf]; omega
          · rw [hev] at HE
            have HE' : Hid (Calls Tryd.prog 8 _ _ _) := HE
            have R2 : Hid (Row w.heap.size wr v ([91] ++ [] ++ Plain.points (Plain.mem p j (t + 1)))) := by show Row _ _ _ _; rw [Plain.mem_skip p j t ht1 h92 hev]; exact hR.out
            clear HE hev h92
            go_wp2_with fail
            refine HE'.out.mono ?_
            rintro e w' ⟨rfl, hw'⟩; subst w'
            go_wp2_with fail
            go_roundw
            case rel => exact ⟨t + 1, v, by omega, by omega, by go_num, rfl, R2, hB⟩
            case measure => simp [intOf]; omega
        · have b92 : (p t == 92) = false := beq_eq_false_iff_ne.2 h92
          have hm : Hid (Plain.mem p j (t + 1) = Plain.mem p j t ++ [p t]) := Plain.mem_take p j t ht1 (fun h => h92 h.1)
          clear h92
          go_wp2_with fail
          refine (point_any w.heap.size v _ (p t) wr hR.out (by simp; omega) hsw hlo hhi).mono ?_
          rintro e w2 ⟨v2, rfl, g2, B2⟩
          have R2 : Hid (Row w.heap.size w2 v2 ([91] ++ [] ++ Plain.points (Plain.mem p j (t + 1)))) := by show Row _ _ _ _; rw [hm.out, Plain.points_snoc]; simpa using g2
          have R3 : Hid (Below w.heap.size w w2) := hB.out.trans B2
          clear g2 B2
          go_wp2_with fail
          go_roundw
          case rel => exact ⟨t + 1, v2, by omega, by omega, by go_num, rfl, R2, R3⟩
          case measure => simp [intOf]; omega
      have hte' : t = e0 := by omega
      subst hte'
      have g2 := hR.out
      go_wp2_with (at_builtin; refine row_append rfl rfl _ _ rfl w.heap.size v _ rfl (World.ownsRow.alloc g2 _) ⟨wr.heap.size, 0, none⟩ 1 1 [93] rfl rfl ?c1 ?c2 ?c3 ?_)
      case c1 => exact news_new wr _ _ rfl
      case c2 => simp; omega
      case c3 => simp; omega
      intro v5 w5 g5 hg5
      have B5 : Below w.heap.size wr w5 := ((Below.refl _ wr).alloc hsw _).grown hg5 (by simp; omega) (fun k hk => (World.ownsRow.lt g2 k hk).1)
      have g6 : Row w.heap.size w5.drew v5 ([91] ++ [] ++ (Plain.points (Plain.mem p j t) ++ [93])) := by show Row w.heap.size w5 v5 _; simpa using g5
      have hcv := row_conv g6 (by simp)
      have BA : Hid (Below w.heap.size w w5) := hB.out.trans B5
      clear hg5 g5 g6 g2 g1 B1 B5
      generalize hS : ([91] ++ [] ++ (Plain.points (Plain.mem p j t) ++ [93])) = S at hcv
      have HS : Hid (S = [91] ++ [] ++ (Plain.points (Plain.mem p j t) ++ [93])) := hS.symm
      clear hS
      go_wp2_with fail
      go_region
      go_wp2_with fail
      go_ret3
      refine ⟨?_, BA.out.drew⟩
      exact said_list HR.out hje he2 HT.out HC.out HS.out

  · have l1 : ¬ (j : Int) + 1 < (n : Int) := by omega
    clear hrng
    go_wp2_with fail
    go_loop [11, 12] (fun ee kk => ∃ (k : Nat) (z : Int), j ≤ k ∧ k ≤ n ∧ kk = .int .i64 k ∧ ee = .int .i64 z ∧ Hid (Found p j n k z)) (fun _ kk => n - (intOf kk).toNat)
    case atStart => exact ⟨j, -1, Nat.le_refl _, hj, rfl, rfl, .inl ⟨rfl, Plain.clean_lo p j⟩⟩
    case round =>
    obtain ⟨k, z, hk1, hk2, rfl, rfl, hF⟩ := hrel
    rcases hF.out with ⟨rfl, hcl⟩ | ⟨e0, rfl, he1, he2, he3, he4⟩
    · clear hF
      have HCl : Hid (Plain.clean p j k) := hcl
      clear hcl
      by_cases hkn : k < n
      · have hck := S1.cell k hkn
        by_cases h93 : p k = 93
        · have HE := even_any a n c b off j k p w1 S1 hk1 (by omega) (by omega)
          have b93 : (p k == 93) = true := beq_iff_eq.2 h93
          cases hev : Plain.even p j k
          · rw [hev] at HE
            have HE' : Hid (Calls Tryd.prog 8 _ _ _) := HE
            have R : Hid (Found p j n (k + 1) (-1)) := .inl ⟨rfl, Plain.clean_step HCl.out (fun h => by have := h.2; rw [hev] at this; cases this)⟩
            clear HE hev h93
            go_wp2_with fail
            refine HE'.out.mono ?_
            rintro e w' ⟨rfl, hw'⟩; subst w'
            go_wp2_with fail
            go_round
            case rel => exact ⟨k + 1, -1, by omega, by omega, by go_num, rfl, R⟩
            case measure => simp [intOf]; omega
          · rw [hev] at HE
            have HE' : Hid (Calls Tryd.prog 8 _ _ _) := HE
            have R : Hid (Found p j n (k + 1) (k : Int)) := .inr ⟨k, rfl, hk1, hkn, ⟨h93, hev⟩, HCl.out⟩
            clear HE hev h93
            go_wp2_with fail
            refine HE'.out.mono ?_
            rintro e w' ⟨rfl, hw'⟩; subst w'
            go_wp2_with fail
            go_round
            case rel => exact ⟨k + 1, (k : Int), by omega, by omega, by go_num, rfl, R⟩
            case measure => simp [intOf]; omega
        · have b93 : (p k == 93) = false := beq_eq_false_iff_ne.2 h93
          have R : Hid (Found p j n (k + 1) (-1)) := .inl ⟨rfl, Plain.clean_step HCl.out (fun h => h93 h.1)⟩
          clear h93
          go_wp2_with fail
          go_round
          case rel => exact ⟨k + 1, -1, by omega, by omega, by go_num, rfl, R⟩
          case measure => simp [intOf]; omega
      · have hkn' : k = n := by omega
        have HX : Hid (∀ e, j < e → e < n → Plain.term p j e → ¬ Plain.clean p j e) := fun e h1 h2 h3 _ => HCl.out e (by omega) (by omega) h3
        go_wp2_with fail
        go_ret3
        refine ⟨?_, B1⟩
        exact said_nolist HR.out HX.out
    clear hF
    have HX : Hid (∀ e, j < e → e < n → Plain.term p j e → ¬ Plain.clean p j e) := fun e h1 h2 _ _ => by omega
    have he0 : (e0 : Int) ≤ (j : Int) := by omega
    by_cases hkn : k < n
    all_goals
      go_wp2_with fail
      go_ret3
      refine ⟨?_, B1⟩
      exact said_nolist HR.out HX.out

set_option maxHeartbeats 1000000 in
theorem model_end (a : Option Addr) (n c : Nat) (p : Nat → Int) (w : World) (hn : n ≤ 4096) :
    Calls Tryd.prog 5 #[.slice a n c, .int .i64 n] w fun e w' => SaidAt p n n [] e ∧ Below w.heap.size w w' := by
  go_enter Tryd.func5, Tryd.ntmps5
  go_wp2_with (at_builtin; refine row_append rfl rfl _ _ rfl w.heap.size _ [] rfl (World.ownsRow.alloc (row_nil w.heap.size w) _) ⟨w.heap.size, 0, none⟩ 1 1 [91] rfl rfl ?c1 ?c2 ?c3 ?_)
  case c1 => exact news_new w _ _ rfl
  case c2 => simp
  case c3 => simp
  intro v0 w0 h0 hg0
  have B0 : Below w.heap.size w w0 := ((Below.refl _ w).alloc (Nat.le_refl _) _).grown hg0 (by simp) (fun k hk => by cases hk)
  clear h0 hg0
  go_wp2_with fail
  refine wp_loop_rounds 1 ?_
  rw [rounds_succ]
  go_wp2_with fail
  go_ret3
  exact ⟨said_nolist (fun h => by have := h.1; omega) (fun e h1 h2 _ _ => by omega), B0⟩

theorem model_any (a : Option Addr) (n c b off i : Nat) (p : Nat → Int) (w : World) (hs : Sl w a n c b off p) (hn : n ≤ 4096) (hi : i ≤ n) :
    Calls Tryd.prog 5 #[.slice a n c, .int .i64 i] w fun e w' => Said p n i e ∧ Below w.heap.size w w' := by
  by_cases hin : i < n
  · by_cases h33 : p i = 33
    · exact (model_neg a n c b off i p w hs hn hin h33).mono fun e w' h => ⟨said_neg hin h33 h.1, h.2⟩
    · exact (model_pos a n c b off i p w hs hn hin h33).mono fun e w' h => ⟨said_pos (fun h => h33 h.2) h.1, h.2⟩
  · have : i = n := by omega
    subst this
    exact (model_end a i c p w hn).mono fun e w' h => ⟨said_pos (fun h => hin h.1) h.1, h.2⟩

end Go.Proofs.Qxb6618447aDoor.Glob
