/-
  globClass: the two starts (a '!' or none), then one way for each form of a class.
-/
import Derived.Test.Qxb6618447aDoorRowI
import Derived.RegionTactic
import Derived.Deep.RegionWith
import Derived.Deep.DeepCutAuto
namespace Go.Proofs.Qxb6618447aDoor.Glob
open Go Go.RowKit

/-- Where the code's own scan stands: k is the next place, v the characters it has. -/
def Scan (w : World) (p : Nat → Int) (j k : Nat) (v : Value) (wr : World) : Prop := RowI w.heap.size wr v (Plain.mem p j k) ∧ Below w.heap.size w wr ∧ Plain.even p j k = true ∧ Plain.clean p j k ∧ (j < k → Plain.mem p j k ≠ [])

theorem scan_plain {w : World} {p : Nat → Int} {j k : Nat} {v' : Value} {w1 : World} (hk : j ≤ k) (hcl : Plain.clean p j k) (h93 : p k ≠ 93) (h92 : p k ≠ 92)
    (h1 : RowI w.heap.size w1 v' (Plain.mem p j k ++ [p k])) (h2 : Below w.heap.size w w1) : Scan w p j (k + 1) v' w1 := by
  have hm : Plain.mem p j (k + 1) = Plain.mem p j k ++ [p k] := Plain.mem_take p j k hk (fun h => h92 h.1)
  refine ⟨by rw [hm]; exact h1, h2, Plain.even_plain p j k h92, Plain.clean_step hcl (fun h => h93 h.1), fun _ => by rw [hm]; simp⟩
theorem scan_esc {w : World} {p : Nat → Int} {j k : Nat} {v' : Value} {w1 : World} (hk : j ≤ k) (hcl : Plain.clean p j k) (hev : Plain.even p j k = true) (h92 : p k = 92)
    (h1 : RowI w.heap.size w1 v' (Plain.mem p j k ++ [p (k + 1)])) (h2 : Below w.heap.size w w1) : Scan w p j (k + 1 + 1) v' w1 := by
  have e1 : Plain.even p j (k + 1) = false := by rw [Plain.even_back p j k hk h92, hev]; rfl
  have m1 : Plain.mem p j (k + 1) = Plain.mem p j k := Plain.mem_skip p j k hk h92 hev
  have m2 : Plain.mem p j (k + 1 + 1) = Plain.mem p j k ++ [p (k + 1)] := by rw [Plain.mem_take p j (k + 1) (by omega) (fun h => by rw [e1] at h; cases h.2), m1]
  have c1 : Plain.clean p j (k + 1) := Plain.clean_step hcl (fun h => by have := h.1; omega)
  have c2 : Plain.clean p j (k + 1 + 1) := Plain.clean_step c1 (fun h => by have := h.2; rw [e1] at this; cases this)
  have e2 : Plain.even p j (k + 1 + 1) = true := by
    by_cases h : p (k + 1) = 92
    · rw [Plain.even_back p j (k + 1) (by omega) h, e1]; rfl
    · exact Plain.even_plain p j (k + 1) h
  exact ⟨by rw [m2]; exact h1, h2, e2, c2, fun _ => by rw [m2]; simp⟩

theorem bytes_eq {X : ByteArray} {S : List UInt8} (h : X.data.toList = S) : X = ⟨S.toArray⟩ := by
  subst h; simp
theorem said_list_b {p : Nat → Int} {n j : Nat} {neg : List UInt8} (h1 : ¬ Plain.rng p n j) {e : Nat} (h2 : j < e) (h3 : e < n) (h4 : Plain.term p j e) (h5 : Plain.clean p j e) {X : ByteArray} (hX : X.data.toList = [91] ++ neg ++ (Plain.points (Plain.mem p j e) ++ [93])) :
    SaidAt p n j neg (.returned (.tuple #[.int .i64 (e : Int), .string X, .bool true])) := by
  rw [bytes_eq hX]
  exact said_list h1 h2 h3 h4 h5 rfl
theorem said_range_b {p : Nat → Int} {n j : Nat} {neg : List UInt8} (h1 : Plain.rng p n j) (h2 : Plain.rngOk p n j) {X : ByteArray} (hX : X.data.toList = [91] ++ neg ++ (Plain.point (p j) ++ ([45] ++ (Plain.point (p (j + 2)) ++ [93])))) :
    SaidAt p n j neg (.returned (.tuple #[.int .i64 ((j : Int) + 3), .string X, .bool true])) := by
  rw [bytes_eq hX]
  exact said_range h1 h2 rfl

/-- runesClass of one rune of the pattern, in whatever later world. -/
theorem one_rune {a : Option Addr} {n c b off : Nat} {p : Nat → Int} {w : World} (hs : Sl w a n c b off p) (ht : Tab w) (k : Nat) (hk : k < n) (c' : Nat) (wx : World) (hb : Below w.heap.size w wx) :
    Calls Tryd.prog 11 #[.slice (some ⟨b, off + k, none⟩) 1 c'] wx fun e w' => e = .returned (.string ⟨(Plain.point (p k)).toArray⟩) ∧ Below w.heap.size w w' := by
  have h := runes_any (some ⟨b, off + k, none⟩) 1 c' b (off + k) (fun _ => p k) wx (sl_one c' ((hs.later hb).cell k hk) (hs.lo k) (hs.hi k)) (by omega) (ht.later ht.2 hb)
  rw [upto_one] at h
  refine h.mono ?_
  rintro e w' ⟨rfl, hb'⟩
  refine ⟨?_, hb.trans (hb'.mono hb.size)⟩
  simp [Plain.points]

set_option maxHeartbeats 4000000 in
set_option maxRecDepth 100000 in
theorem glob_neg (n c b off i : Nat) (p : Nat → Int) (w : World) (hs : Sl w (some ⟨b, off, none⟩) n c b off p) (hnc : n ≤ c) (ht : Tab w) (hn : n ≤ 4096) (hin : i < n) (h33 : p i = 33) :
    Calls Tryd.prog 9 #[.slice (some ⟨b, off, none⟩) n c, .int .i64 i] w fun e w' => SaidAt p n (i + 1) [94] e ∧ Below w.heap.size w w' := by
  have hix := hs.ix
  have hcx := hs.cell i hin
  have hb33 : (p i == 33) = true := beq_iff_eq.2 h33
  have hini : (i : Int) < (n : Int) := by omega
  clear h33
  go_enter Tryd.func9, Tryd.ntmps9
  go_upto_region 5 with fail
  rw [show (i : Int) + 1 = ((i + 1 : Nat) : Int) from by omega]
  have hj : i + 1 ≤ n := by omega
  clear hin hcx hb33 hini
  generalize hjj : i + 1 = j at *
  have HJ : Hid (i + 1 = j) := hjj
  clear hjj
  by_cases hrng : Plain.rng p n j
  · have ix1 := hs.ixz (j + 1) hrng.1 (z := (j : Int) + 1) (by omega)
    have c1 := hs.cell (j + 1) hrng.1
    have b45 : (p (j + 1) == 45) = true := beq_iff_eq.2 hrng.2
    have l1 : (j : Int) + 1 < (n : Int) := by have := hrng.1; omega
    have HR : Hid (Plain.rng p n j) := hrng
    clear hrng
    by_cases ho1 : j + 3 < n
    · have ix3 := hs.ixz (j + 3) ho1 (z := (j : Int) + 3) (by omega)
      have c3 := hs.cell (j + 3) ho1
      have l3 : ¬ (n : Int) ≤ (j : Int) + 3 := by omega
      by_cases ho2 : p (j + 3) = 93
      · have b93 : (p (j + 3) != 93) = false := by simp [ho2]
        have HO : Hid (Plain.rngOk p n j) := ⟨ho1, ho2⟩
        clear ho2
        have k0 : (j : Int) + 1 ≤ (c : Int) := by omega
        have k1 : (j : Int) + 3 ≤ (c : Int) := by omega
        have k2 : ¬ c = j := by omega
        have k3 : ¬ c = j + 2 := by omega
        have k4 : (j : Int) + 2 ≤ (j : Int) + 3 := by omega
        have k5 : (0 : Int) ≤ (j : Int) + 2 := by omega
        have k6 : (0 : Int) ≤ (j : Int) + 1 := by omega
        have k7 : ((j : Int) + 2).toNat = j + 2 := by omega
        have k8 : ((j : Int) + 3).toNat = j + 3 := by omega
        have e1 : IntKind.i64.wrap ((j : Int) + 1) = (j : Int) + 1 := by rw [IntKind.wrap_i64]; omega
        have e2 : IntKind.i64.wrap ((j : Int) + 2) = (j : Int) + 2 := by rw [IntKind.wrap_i64]; omega
        have e3 : IntKind.i64.wrap ((j : Int) + 3) = (j : Int) + 3 := by rw [IntKind.wrap_i64]; omega
        have H0 : Hid (∀ wx, Below w.heap.size w wx → Calls Tryd.prog 11 #[.slice (some ⟨b, off + j, none⟩) 1 (c - j)] wx fun e w' => e = .returned (.string ⟨(Plain.point (p j)).toArray⟩) ∧ Below w.heap.size w w') := fun wx hb => one_rune hs ht j (by omega) (c - j) wx hb
        have H2 : Hid (∀ wx, Below w.heap.size w wx → Calls Tryd.prog 11 #[.slice (some ⟨b, off + (j + 2), none⟩) 1 (c - (j + 2))] wx fun e w' => e = .returned (.string ⟨(Plain.point (p (j + 2))).toArray⟩) ∧ Below w.heap.size w w') := fun wx hb => one_rune hs ht (j + 2) (by omega) (c - (j + 2)) wx hb
        have q0 := Plain.point_len (p j)
        have q2 := Plain.point_len (p (j + 2))
        generalize hP0 : Plain.point (p j) = P0 at *
        generalize hP2 : Plain.point (p (j + 2)) = P2 at *
        have HP0 : Hid (Plain.point (p j) = P0) := hP0
        have HP2 : Hid (Plain.point (p (j + 2)) = P2) := hP2
        clear hP0 hP2
        go_wp2_with fail
        go_region_with (first | (go_at_call_of 11 (Value.slice (some ⟨b, off + j, none⟩) 1 (c - j)); refine (H0.out _ ?_).mono ?_; exact (Below.refl _ _).drew; rintro e w1 ⟨rfl, B1⟩) | (go_at_call 11; refine (H2.out _ ?_).mono ?_; assumption; rintro e w2 ⟨rfl, B2⟩))
        all_goals
          go_wp2_with fail
          go_ret3
          refine ⟨?_, by assumption⟩
          rw [HJ.out]
          refine said_range_b HR.out HO.out ?_
          rw [HP0.out, HP2.out]
          simp
      · have b93 : (p (j + 3) != 93) = true := by simp [ho2]
        have HO : Hid (¬ Plain.rngOk p n j) := fun h => ho2 h.2
        clear ho2
        go_wp2_with fail
        go_ret3
        refine ⟨?_, Below.refl _ _⟩
        rw [HJ.out]
        exact said_norange HR.out HO.out
    · have l3 : (n : Int) ≤ (j : Int) + 3 := by omega
      have HO : Hid (¬ Plain.rngOk p n j) := fun h => ho1 h.1
      go_wp2_with fail
      go_ret3
      refine ⟨?_, Below.refl _ _⟩
      rw [HJ.out]
      exact said_norange HR.out HO.out
  have HR : Hid (¬ Plain.rng p n j) := hrng
  go_cut [34] (fun s wr => s = .bool false ∧ wr = w)
  case first =>
    by_cases l1' : j + 1 < n
    · have ix1 := hs.ixz (j + 1) l1' (z := (j : Int) + 1) (by omega)
      have c1 := hs.cell (j + 1) l1'
      have b45 : (p (j + 1) == 45) = false := beq_eq_false_iff_ne.2 (fun h => hrng ⟨l1', h⟩)
      have l1 : (j : Int) + 1 < (n : Int) := by omega
      clear hrng
      go_wp2_with fail
      go_meet
      exact ⟨rfl, rfl⟩
    · have l1 : ¬ (j : Int) + 1 < (n : Int) := by omega
      clear hrng
      go_wp2_with fail
      go_meet
      exact ⟨rfl, rfl⟩
  case rest =>
  obtain ⟨rfl, hwc⟩ := hcut
  subst wc
  clear hrng
  go_wp2_with fail
  go_loopw [1, 8] (fun ii bb wr => ∃ (k : Nat) (v : Value), j ≤ k ∧ k ≤ n ∧ ii = .int .i64 k ∧ v = bb ∧ Hid (Scan w p j k v wr)) (fun ii _ _ => n - (intOf ii).toNat)
  case atStart => exact ⟨j, _, Nat.le_refl _, hj, rfl, rfl, by show RowI _ _ _ _; rw [Plain.mem_lo]; exact rowI_nil _ _, Below.refl _ _, Plain.even_lo p j, Plain.clean_lo p j, fun h => absurd h (Nat.lt_irrefl _)⟩
  case round =>
  obtain ⟨k, v, hk1, hk2, rfl, rfl, hS⟩ := hrel
  have HRw : Hid (RowI w.heap.size wr v (Plain.mem p j k)) := hS.out.1
  have HBw : Hid (Below w.heap.size w wr) := hS.out.2.1
  have HEv : Hid (Plain.even p j k = true) := hS.out.2.2.1
  have HCl : Hid (Plain.clean p j k) := hS.out.2.2.2.1
  have HNe : Hid (j < k → Plain.mem p j k ≠ []) := hS.out.2.2.2.2
  clear hS
  have hsw : w.heap.size ≤ wr.heap.size := HBw.out.size
  have Sr : Sl wr (some ⟨b, off, none⟩) n c b off p := hs.later HBw.out
  have hml := Plain.mem_len p j k
  by_cases hkn : k < n
  · have hck := Sr.cell k hkn
    by_cases h93 : p k = 93
    · have b93 : (p k != 93) = false := by simp [h93]
      have bkn : ((k : Int) == (n : Int)) = false := beq_eq_false_iff_ne.2 (by omega)
      have hle := rowI_len HRw.out
      by_cases hkj : k = j
      · have HX : Hid (∀ e, j < e → e < n → Plain.term p j e → ¬ Plain.clean p j e) := fun e h1 _ _ h4 => h4 j (Nat.le_refl _) h1 ⟨hkj ▸ h93, hkj ▸ HEv.out⟩
        rw [hkj, Plain.mem_lo] at hle
        clear hkj h93
        go_wp2_with fail
        go_ret3
        refine ⟨?_, HBw.out⟩
        rw [HJ.out]
        exact said_nolist HR.out HX.out
      · have hjk : j < k := by omega
        have HT : Hid (Plain.term p j k) := ⟨h93, HEv.out⟩
        obtain ⟨g, cap, rfl, hsl⟩ := rowI_read HRw.out (HNe.out hjk) (mem_bounds hs.lo hs.hi j k)
        have HC := runes_any (some ⟨g, 0, none⟩) (Plain.mem p j k).length cap g 0 _ wr hsl (by omega) (ht.later ht.2 HBw.out)
        rw [upto_all] at HC
        have HC' : Hid (Calls Tryd.prog 11 _ _ _) := HC
        have hne0 : (((Plain.mem p j k).length : Int) == 0) = false := beq_eq_false_iff_ne.2 (by have := HNe.out hjk; have := List.length_pos_iff.2 this; omega)
        have hpl := Plain.points_len (Plain.mem p j k)
        clear HC h93 hkj hsl
        generalize hP : Plain.points (Plain.mem p j k) = P at *
        have HP : Hid (P = Plain.points (Plain.mem p j k)) := hP.symm
        clear hP
        go_wp2_with fail
        refine HC'.out.mono ?_
        rintro e w2 ⟨rfl, B2⟩
        go_wp2_with fail
        go_ret3
        refine ⟨?_, HBw.out.trans (B2.mono hsw)⟩
        rw [HJ.out]
        refine said_list_b HR.out hjk hkn HT.out HCl.out ?_
        rw [← HP.out]
        simp
    · have b93 : (p k != 93) = true := by simp [h93]
      by_cases h92 : p k = 92
      · have b92 : (p k == 92) = true := beq_iff_eq.2 h92
        by_cases hkn1 : k + 1 = n
        · have bkn : ((k : Int) + 1 == (n : Int)) = true := beq_iff_eq.2 (by omega)
          have HX : Hid (∀ e, j < e → e < n → Plain.term p j e → ¬ Plain.clean p j e) := fun e h1 h2 h3 _ => by
            rcases Nat.lt_or_ge e k with h | h
            · exact HCl.out e (by omega) h h3
            · have hek : e = k := by omega
              subst hek
              exact h93 h3.1
          clear h93 h92 hkn1
          go_wp2_with fail
          go_ret3
          refine ⟨?_, HBw.out⟩
          rw [HJ.out]
          exact said_nolist HR.out HX.out
        · have bkn : ((k : Int) + 1 == (n : Int)) = false := beq_eq_false_iff_ne.2 (by omega)
          have ix1 := hs.ixz (k + 1) (by omega) (z := (k : Int) + 1) (by omega)
          have c1 := Sr.cell (k + 1) (by omega)
          have H92 : Hid (p k = 92) := h92
          have hk2' : k + 1 < n := by omega
          clear h93 h92 hkn1
          go_wp2_with (at_builtin; refine rowI_append rfl rfl _ _ rfl w.heap.size v (Plain.mem p j k) rfl (World.ownsRow.alloc HRw.out _) ⟨wr.heap.size, 0, none⟩ 1 (p (k + 1)) rfl ?c1 ?c2 ?c3 ?_)
          case c1 => exact newsI wr _
          case c2 => omega
          case c3 => simp; omega
          intro v1 w1 g1 hg1
          have B1 : Below w.heap.size wr w1 := ((Below.refl _ wr).alloc hsw _).grown hg1 (by simp; omega) (fun k hk => (World.ownsRow.lt HRw.out k hk).1)
          have R : Hid (Scan w p j (k + 1 + 1) v1 w1) := scan_esc hk1 HCl.out HEv.out H92.out g1 (HBw.out.trans B1)
          clear g1 hg1 B1
          go_wp2_with fail
          go_roundw
          case rel => exact ⟨k + 1 + 1, v1, by omega, by omega, by go_num, rfl, R⟩
          case measure => simp [intOf]; omega
      · have b92 : (p k == 92) = false := beq_eq_false_iff_ne.2 h92
        have H93 : Hid (p k ≠ 93) := h93
        have H92 : Hid (p k ≠ 92) := h92
        clear h93 h92
        go_wp2_with (at_builtin; refine rowI_append rfl rfl _ _ rfl w.heap.size v (Plain.mem p j k) rfl (World.ownsRow.alloc HRw.out _) ⟨wr.heap.size, 0, none⟩ 1 (p k) rfl ?c1 ?c2 ?c3 ?_)
        case c1 => exact newsI wr _
        case c2 => omega
        case c3 => simp; omega
        intro v1 w1 g1 hg1
        have B1 : Below w.heap.size wr w1 := ((Below.refl _ wr).alloc hsw _).grown hg1 (by simp; omega) (fun k hk => (World.ownsRow.lt HRw.out k hk).1)
        have R : Hid (Scan w p j (k + 1) v1 w1) := scan_plain hk1 HCl.out H93.out H92.out g1 (HBw.out.trans B1)
        clear g1 hg1 B1
        go_wp2_with fail
        go_roundw
        case rel => exact ⟨k + 1, v1, by omega, by omega, by go_num, rfl, R⟩
        case measure => simp [intOf]; omega
  · have hkn' : k = n := by omega
    have bkn : ((k : Int) == (n : Int)) = true := beq_iff_eq.2 (by omega)
    have hkl : ¬ (k : Int) < (n : Int) := by omega
    have HX : Hid (∀ e, j < e → e < n → Plain.term p j e → ¬ Plain.clean p j e) := fun e h1 h2 h3 _ => HCl.out e (by omega) (by omega) h3
    clear hkn'
    go_wp2_with fail
    go_ret3
    refine ⟨?_, HBw.out⟩
    rw [HJ.out]
    exact said_nolist HR.out HX.out

set_option maxHeartbeats 4000000 in
set_option maxRecDepth 100000 in
theorem glob_pos (n c b off j : Nat) (p : Nat → Int) (w : World) (hs : Sl w (some ⟨b, off, none⟩) n c b off p) (hnc : n ≤ c) (ht : Tab w) (hn : n ≤ 4096) (hin : j < n) (h33 : p j ≠ 33) :
    Calls Tryd.prog 9 #[.slice (some ⟨b, off, none⟩) n c, .int .i64 j] w fun e w' => SaidAt p n j [] e ∧ Below w.heap.size w w' := by
  have hix := hs.ix
  have hcx := hs.cell j hin
  have hb33 : (p j == 33) = false := beq_eq_false_iff_ne.2 h33
  have hini : (j : Int) < (n : Int) := by omega
  clear h33
  go_enter Tryd.func9, Tryd.ntmps9
  go_upto_region 5 with fail
  have hj : j ≤ n := by omega
  clear hcx hb33 hini
  by_cases hrng : Plain.rng p n j
  · have ix1 := hs.ixz (j + 1) hrng.1 (z := (j : Int) + 1) (by omega)
    have c1 := hs.cell (j + 1) hrng.1
    have b45 : (p (j + 1) == 45) = true := beq_iff_eq.2 hrng.2
    have l1 : (j : Int) + 1 < (n : Int) := by have := hrng.1; omega
    have HR : Hid (Plain.rng p n j) := hrng
    clear hrng
    by_cases ho1 : j + 3 < n
    · have ix3 := hs.ixz (j + 3) ho1 (z := (j : Int) + 3) (by omega)
      have c3 := hs.cell (j + 3) ho1
      have l3 : ¬ (n : Int) ≤ (j : Int) + 3 := by omega
      by_cases ho2 : p (j + 3) = 93
      · have b93 : (p (j + 3) != 93) = false := by simp [ho2]
        have HO : Hid (Plain.rngOk p n j) := ⟨ho1, ho2⟩
        clear ho2
        have k0 : (j : Int) + 1 ≤ (c : Int) := by omega
        have k1 : (j : Int) + 3 ≤ (c : Int) := by omega
        have k2 : ¬ c = j := by omega
        have k3 : ¬ c = j + 2 := by omega
        have k4 : (j : Int) + 2 ≤ (j : Int) + 3 := by omega
        have k5 : (0 : Int) ≤ (j : Int) + 2 := by omega
        have k6 : (0 : Int) ≤ (j : Int) + 1 := by omega
        have k7 : ((j : Int) + 2).toNat = j + 2 := by omega
        have k8 : ((j : Int) + 3).toNat = j + 3 := by omega
        have e1 : IntKind.i64.wrap ((j : Int) + 1) = (j : Int) + 1 := by rw [IntKind.wrap_i64]; omega
        have e2 : IntKind.i64.wrap ((j : Int) + 2) = (j : Int) + 2 := by rw [IntKind.wrap_i64]; omega
        have e3 : IntKind.i64.wrap ((j : Int) + 3) = (j : Int) + 3 := by rw [IntKind.wrap_i64]; omega
        have H0 : Hid (∀ wx, Below w.heap.size w wx → Calls Tryd.prog 11 #[.slice (some ⟨b, off + j, none⟩) 1 (c - j)] wx fun e w' => e = .returned (.string ⟨(Plain.point (p j)).toArray⟩) ∧ Below w.heap.size w w') := fun wx hb => one_rune hs ht j (by omega) (c - j) wx hb
        have H2 : Hid (∀ wx, Below w.heap.size w wx → Calls Tryd.prog 11 #[.slice (some ⟨b, off + (j + 2), none⟩) 1 (c - (j + 2))] wx fun e w' => e = .returned (.string ⟨(Plain.point (p (j + 2))).toArray⟩) ∧ Below w.heap.size w w') := fun wx hb => one_rune hs ht (j + 2) (by omega) (c - (j + 2)) wx hb
        have q0 := Plain.point_len (p j)
        have q2 := Plain.point_len (p (j + 2))
        generalize hP0 : Plain.point (p j) = P0 at *
        generalize hP2 : Plain.point (p (j + 2)) = P2 at *
        have HP0 : Hid (Plain.point (p j) = P0) := hP0
        have HP2 : Hid (Plain.point (p (j + 2)) = P2) := hP2
        clear hP0 hP2
        go_wp2_with fail
        go_region_with (first | (go_at_call_of 11 (Value.slice (some ⟨b, off + j, none⟩) 1 (c - j)); refine (H0.out _ ?_).mono ?_; exact (Below.refl _ _).drew; rintro e w1 ⟨rfl, B1⟩) | (go_at_call 11; refine (H2.out _ ?_).mono ?_; assumption; rintro e w2 ⟨rfl, B2⟩))
        all_goals
          go_wp2_with fail
          go_ret3
          refine ⟨?_, by assumption⟩
          refine said_range_b HR.out HO.out ?_
          rw [HP0.out, HP2.out]
          simp
      · have b93 : (p (j + 3) != 93) = true := by simp [ho2]
        have HO : Hid (¬ Plain.rngOk p n j) := fun h => ho2 h.2
        clear ho2
        go_wp2_with fail
        go_ret3
        refine ⟨?_, Below.refl _ _⟩
        exact said_norange HR.out HO.out
    · have l3 : (n : Int) ≤ (j : Int) + 3 := by omega
      have HO : Hid (¬ Plain.rngOk p n j) := fun h => ho1 h.1
      go_wp2_with fail
      go_ret3
      refine ⟨?_, Below.refl _ _⟩
      exact said_norange HR.out HO.out
  have HR : Hid (¬ Plain.rng p n j) := hrng
  go_cut [34] (fun s wr => s = .bool false ∧ wr = w)
  case first =>
    by_cases l1' : j + 1 < n
    · have ix1 := hs.ixz (j + 1) l1' (z := (j : Int) + 1) (by omega)
      have c1 := hs.cell (j + 1) l1'
      have b45 : (p (j + 1) == 45) = false := beq_eq_false_iff_ne.2 (fun h => hrng ⟨l1', h⟩)
      have l1 : (j : Int) + 1 < (n : Int) := by omega
      clear hrng
      go_wp2_with fail
      go_meet
      exact ⟨rfl, rfl⟩
    · have l1 : ¬ (j : Int) + 1 < (n : Int) := by omega
      clear hrng
      go_wp2_with fail
      go_meet
      exact ⟨rfl, rfl⟩
  case rest =>
  obtain ⟨rfl, hwc⟩ := hcut
  subst wc
  clear hrng
  go_wp2_with fail
  go_loopw [1, 8] (fun ii bb wr => ∃ (k : Nat) (v : Value), j ≤ k ∧ k ≤ n ∧ ii = .int .i64 k ∧ v = bb ∧ Hid (Scan w p j k v wr)) (fun ii _ _ => n - (intOf ii).toNat)
  case atStart => exact ⟨j, _, Nat.le_refl _, hj, rfl, rfl, by show RowI _ _ _ _; rw [Plain.mem_lo]; exact rowI_nil _ _, Below.refl _ _, Plain.even_lo p j, Plain.clean_lo p j, fun h => absurd h (Nat.lt_irrefl _)⟩
  case round =>
  obtain ⟨k, v, hk1, hk2, rfl, rfl, hS⟩ := hrel
  have HRw : Hid (RowI w.heap.size wr v (Plain.mem p j k)) := hS.out.1
  have HBw : Hid (Below w.heap.size w wr) := hS.out.2.1
  have HEv : Hid (Plain.even p j k = true) := hS.out.2.2.1
  have HCl : Hid (Plain.clean p j k) := hS.out.2.2.2.1
  have HNe : Hid (j < k → Plain.mem p j k ≠ []) := hS.out.2.2.2.2
  clear hS
  have hsw : w.heap.size ≤ wr.heap.size := HBw.out.size
  have Sr : Sl wr (some ⟨b, off, none⟩) n c b off p := hs.later HBw.out
  have hml := Plain.mem_len p j k
  by_cases hkn : k < n
  · have hck := Sr.cell k hkn
    by_cases h93 : p k = 93
    · have b93 : (p k != 93) = false := by simp [h93]
      have bkn : ((k : Int) == (n : Int)) = false := beq_eq_false_iff_ne.2 (by omega)
      have hle := rowI_len HRw.out
      by_cases hkj : k = j
      · have HX : Hid (∀ e, j < e → e < n → Plain.term p j e → ¬ Plain.clean p j e) := fun e h1 _ _ h4 => h4 j (Nat.le_refl _) h1 ⟨hkj ▸ h93, hkj ▸ HEv.out⟩
        rw [hkj, Plain.mem_lo] at hle
        clear hkj h93
        go_wp2_with fail
        go_ret3
        refine ⟨?_, HBw.out⟩
        exact said_nolist HR.out HX.out
      · have hjk : j < k := by omega
        have HT : Hid (Plain.term p j k) := ⟨h93, HEv.out⟩
        obtain ⟨g, cap, rfl, hsl⟩ := rowI_read HRw.out (HNe.out hjk) (mem_bounds hs.lo hs.hi j k)
        have HC := runes_any (some ⟨g, 0, none⟩) (Plain.mem p j k).length cap g 0 _ wr hsl (by omega) (ht.later ht.2 HBw.out)
        rw [upto_all] at HC
        have HC' : Hid (Calls Tryd.prog 11 _ _ _) := HC
        have hne0 : (((Plain.mem p j k).length : Int) == 0) = false := beq_eq_false_iff_ne.2 (by have := HNe.out hjk; have := List.length_pos_iff.2 this; omega)
        have hpl := Plain.points_len (Plain.mem p j k)
        clear HC h93 hkj hsl
        generalize hP : Plain.points (Plain.mem p j k) = P at *
        have HP : Hid (P = Plain.points (Plain.mem p j k)) := hP.symm
        clear hP
        go_wp2_with fail
        refine HC'.out.mono ?_
        rintro e w2 ⟨rfl, B2⟩
        go_wp2_with fail
        go_ret3
        refine ⟨?_, HBw.out.trans (B2.mono hsw)⟩
        refine said_list_b HR.out hjk hkn HT.out HCl.out ?_
        rw [← HP.out]
        simp
    · have b93 : (p k != 93) = true := by simp [h93]
      by_cases h92 : p k = 92
      · have b92 : (p k == 92) = true := beq_iff_eq.2 h92
        by_cases hkn1 : k + 1 = n
        · have bkn : ((k : Int) + 1 == (n : Int)) = true := beq_iff_eq.2 (by omega)
          have HX : Hid (∀ e, j < e → e < n → Plain.term p j e → ¬ Plain.clean p j e) := fun e h1 h2 h3 _ => by
            rcases Nat.lt_or_ge e k with h | h
            · exact HCl.out e (by omega) h h3
            · have hek : e = k := by omega
              subst hek
              exact h93 h3.1
          clear h93 h92 hkn1
          go_wp2_with fail
          go_ret3
          refine ⟨?_, HBw.out⟩
          exact said_nolist HR.out HX.out
        · have bkn : ((k : Int) + 1 == (n : Int)) = false := beq_eq_false_iff_ne.2 (by omega)
          have ix1 := hs.ixz (k + 1) (by omega) (z := (k : Int) + 1) (by omega)
          have c1 := Sr.cell (k + 1) (by omega)
          have H92 : Hid (p k = 92) := h92
          have hk2' : k + 1 < n := by omega
          clear h93 h92 hkn1
          go_wp2_with (at_builtin; refine rowI_append rfl rfl _ _ rfl w.heap.size v (Plain.mem p j k) rfl (World.ownsRow.alloc HRw.out _) ⟨wr.heap.size, 0, none⟩ 1 (p (k + 1)) rfl ?c1 ?c2 ?c3 ?_)
          case c1 => exact newsI wr _
          case c2 => omega
          case c3 => simp; omega
          intro v1 w1 g1 hg1
          have B1 : Below w.heap.size wr w1 := ((Below.refl _ wr).alloc hsw _).grown hg1 (by simp; omega) (fun k hk => (World.ownsRow.lt HRw.out k hk).1)
          have R : Hid (Scan w p j (k + 1 + 1) v1 w1) := scan_esc hk1 HCl.out HEv.out H92.out g1 (HBw.out.trans B1)
          clear g1 hg1 B1
          go_wp2_with fail
          go_roundw
          case rel => exact ⟨k + 1 + 1, v1, by omega, by omega, by go_num, rfl, R⟩
          case measure => simp [intOf]; omega
      · have b92 : (p k == 92) = false := beq_eq_false_iff_ne.2 h92
        have H93 : Hid (p k ≠ 93) := h93
        have H92 : Hid (p k ≠ 92) := h92
        clear h93 h92
        go_wp2_with (at_builtin; refine rowI_append rfl rfl _ _ rfl w.heap.size v (Plain.mem p j k) rfl (World.ownsRow.alloc HRw.out _) ⟨wr.heap.size, 0, none⟩ 1 (p k) rfl ?c1 ?c2 ?c3 ?_)
        case c1 => exact newsI wr _
        case c2 => omega
        case c3 => simp; omega
        intro v1 w1 g1 hg1
        have B1 : Below w.heap.size wr w1 := ((Below.refl _ wr).alloc hsw _).grown hg1 (by simp; omega) (fun k hk => (World.ownsRow.lt HRw.out k hk).1)
        have R : Hid (Scan w p j (k + 1) v1 w1) := scan_plain hk1 HCl.out H93.out H92.out g1 (HBw.out.trans B1)
        clear g1 hg1 B1
        go_wp2_with fail
        go_roundw
        case rel => exact ⟨k + 1, v1, by omega, by omega, by go_num, rfl, R⟩
        case measure => simp [intOf]; omega
  · have hkn' : k = n := by omega
    have bkn : ((k : Int) == (n : Int)) = true := beq_iff_eq.2 (by omega)
    have hkl : ¬ (k : Int) < (n : Int) := by omega
    have HX : Hid (∀ e, j < e → e < n → Plain.term p j e → ¬ Plain.clean p j e) := fun e h1 h2 h3 _ => HCl.out e (by omega) (by omega) h3
    clear hkn'
    go_wp2_with fail
    go_ret3
    refine ⟨?_, HBw.out⟩
    exact said_nolist HR.out HX.out

set_option maxHeartbeats 1000000 in
theorem glob_end (a : Option Addr) (n c : Nat) (p : Nat → Int) (w : World) (hn : n ≤ 4096) :
    Calls Tryd.prog 9 #[.slice a n c, .int .i64 n] w fun e w' => SaidAt p n n [] e ∧ Below w.heap.size w w' := by
  go_enter Tryd.func9, Tryd.ntmps9
  go_wp2_with fail
  refine wp_loop_rounds 1 ?_
  rw [rounds_succ]
  go_wp2_with fail
  go_ret3
  exact ⟨said_nolist (fun h => by have := h.1; omega) (fun e h1 h2 _ _ => by omega), Below.refl _ _⟩

theorem glob_any (a : Option Addr) (n c b off i : Nat) (p : Nat → Int) (w : World) (hs : Sl w a n c b off p) (ha : 0 < n → a = some ⟨b, off, none⟩ ∧ n ≤ c) (ht : Tab w) (hn : n ≤ 4096) (hi : i ≤ n) :
    Calls Tryd.prog 9 #[.slice a n c, .int .i64 i] w fun e w' => Said p n i e ∧ Below w.heap.size w w' := by
  by_cases hin : i < n
  · obtain ⟨rfl, hnc⟩ := ha (by omega)
    by_cases h33 : p i = 33
    · exact (glob_neg n c b off i p w hs hnc ht hn hin h33).mono fun e w' h => ⟨said_neg hin h33 h.1, h.2⟩
    · exact (glob_pos n c b off i p w hs hnc ht hn hin h33).mono fun e w' h => ⟨said_pos (fun h => h33 h.2) h.1, h.2⟩
  · have : i = n := by omega
    subst this
    exact (glob_end a i c p w hn).mono fun e w' h => ⟨said_pos (fun h => hin h.1) h.1, h.2⟩

set_option maxHeartbeats 1000000 in
/-- ZZglobClass hands it on. -/
theorem zzglob_any (a : Option Addr) (n c b off i : Nat) (p : Nat → Int) (w : World) (hs : Sl w a n c b off p) (ha : 0 < n → a = some ⟨b, off, none⟩ ∧ n ≤ c) (ht : Tab w) (hn : n ≤ 4096) (hi : i ≤ n) :
    Calls Tryd.prog 6 #[.slice a n c, .int .i64 i] w fun e w' => Said p n i e ∧ Below w.heap.size w w' := by
  have HC : Hid (Calls Tryd.prog 9 _ _ _) := glob_any a n c b off i p w hs ha ht hn hi
  clear ha ht hs
  go_enter Tryd.func6, Tryd.ntmps6
  go_wp2_with fail
  refine HC.out.mono ?_
  rintro e w1 ⟨⟨A, S, ok, rfl, hA⟩, hb⟩
  have HA : Hid (Plain.Ans p n (Plain.jOf p n i) (Plain.negOf p n i) A S ok) := hA
  clear hA
  go_wp2_with fail
  go_ret3
  exact ⟨⟨A, S, ok, rfl, HA.out⟩, hb⟩

end Go.Proofs.Qxb6618447aDoor.Glob
