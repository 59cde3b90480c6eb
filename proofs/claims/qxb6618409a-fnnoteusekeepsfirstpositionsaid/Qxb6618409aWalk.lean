/-
  FnNoteUseKeepsFirstPosition: THE WALK OF THE LAW ITSELF.
-/
import Derived.Test.Qxb6618409aBytes
import Derived.Test.Qxb6618409aMaps
import Derived.Deep.RegionHeld3
import Derived.WalkSpells
namespace Go.Proofs.Qxb6618409a.NoteUse
open Go Go.RowKit Go.WideMaps Go.Maps

theorem Sl.later {t : TypeId} {w wr : World} {a : Option Addr} {n c b off : Nat} {f : Nat → Value} (h : Sl t w a n c b off f) (hb : Below w.heap.size w wr) : Sl t wr a n c b off f :=
  ⟨h.ix, fun k hk => cell_later hb (h.cell k hk)⟩

theorem min_nat (x y : Nat) (w : World) : Calls Try.prog 5 #[.int .i64 x, .int .i64 y] w fun e w' => ∃ k : Nat, e = .returned (.int .i64 k) ∧ k ≤ x ∧ k ≤ y ∧ w' = w := by
  refine (min_any x y w).mono ?_
  rintro e w' ⟨rfl, rfl⟩
  by_cases h : (x : Int) < y
  · rw [if_pos h]; exact ⟨x, rfl, Nat.le_refl _, by omega, rfl⟩
  · rw [if_neg h]; exact ⟨y, rfl, by omega, Nat.le_refl _, rfl⟩

set_option maxHeartbeats 4000000 in
set_option maxRecDepth 100000 in
theorem walk (a0 a1 a2 a3 : Option Addr) (n0 c0 b0 o0 n1 c1 b1 o1 n2 c2 b2 o2 n3 c3 b3 o3 : Nat) (K T : Nat → ByteArray) (V P : Nat → Int) (w : World)
    (sk : Sl 22 w a0 n0 c0 b0 o0 (fun j => .string (K j))) (sv : Sl 23 w a1 n1 c1 b1 o1 (fun j => .int .i64 (V j))) (st : Sl 22 w a2 n2 c2 b2 o2 (fun j => .string (T j))) (sp : Sl 23 w a3 n3 c3 b3 o3 (fun j => .int .i64 (P j)))
    (hK : ∀ j, (K j).size ≤ maxLen) (hT : ∀ j, (T j).size ≤ maxLen) (hV : ∀ j, (Lit.int .i64 (V j)).wf = true) (hP : ∀ j, (Lit.int .i64 (P j)).wf = true) :
    Calls Try.prog 3 #[.slice a0 n0 c0, .slice a1 n1 c1, .slice a2 n2 c2, .slice a3 n3 c3] w fun e w' => e = .returned (.bool true) ∧ Below w.heap.size w w' := by
  have HB : Hid (Calls Try.prog 4 _ _ _) := bytes_any a0 a1 a2 a3 n0 c0 b0 o0 n1 c1 n2 c2 b2 o2 n3 c3 K T w sk st (fun j => hK j) (fun j => hT j)
  have HK : Hid (∀ j, (K j).size ≤ maxLen) := hK
  have HT : Hid (∀ j, (T j).size ≤ maxLen) := hT
  have HV : Hid (∀ j, (Lit.int .i64 (V j)).wf = true) := hV
  have HP : Hid (∀ j, (Lit.int .i64 (P j)).wf = true) := hP
  clear hK hT hV hP
  by_cases hbig : 65536 < n0 ∨ 65536 < n1 ∨ 65536 < n2 ∨ 65536 < n3 ∨ 131072 < n1 + n3
  · rcases hbig with h | h | h | h | h
    all_goals
      go_enter Try.func3, Try.ntmps3
      go_wp2_with fail
      refine HB.out.mono ?_
      rintro e w' ⟨⟨r, rfl, hr⟩, hw'⟩; subst w'
      cases r
      · go_wp2
        go_ret
        exact ⟨rfl, Below.refl _ _⟩
      · go_wp2
        all_goals (go_ret; exact ⟨rfl, Below.refl _ _⟩)
  have k0 : n0 ≤ 65536 := by omega
  have k1 : n1 ≤ 65536 := by omega
  have k2 : n2 ≤ 65536 := by omega
  have k3 : n3 ≤ 65536 := by omega
  have k4 : n1 + n3 ≤ 131072 := by omega
  clear hbig
  have hmm := @run_makeMap Try.prog
  have ixk := sk.ix
  have ixv := sv.ix
  have ixt := st.ix
  have ixp := sp.ix
  go_enter Try.func3, Try.ntmps3
  go_wp2_with fail
  refine HB.out.mono ?_
  rintro e w' ⟨⟨r, rfl, hr⟩, hw'⟩; subst w'
  cases r
  · go_wp2
    go_ret
    exact ⟨rfl, Below.refl _ _⟩
  obtain ⟨HKb, HTb⟩ : Hid (∀ j, j < n0 → (K j).size ≤ 1048576) ∧ Hid (∀ j, j < n2 → (T j).size ≤ 1048576) := hr rfl
  clear hr HB
  go_wp2_with fail
  go_loop [9, 10] (fun z j => ∃ (m : Nat) (t : Int), m ≤ n0 ∧ j = .int .i64 m ∧ z = .int .i64 t ∧ 0 ≤ t ∧ t ≤ 2097152) (fun _ j => n0 - (intOf j).toNat)
  case atStart => exact ⟨0, _, Nat.zero_le _, rfl, rfl, by omega, by omega⟩
  case round =>
  obtain ⟨m, t, hm, rfl, rfl, ht0, ht1⟩ := hrel
  by_cases hlt : m < n0
  · have hcx : w.cell? ⟨b0, o0 + m, none⟩ = some (.string (K m)) := sk.cell m hlt
    have hKm := HKb.out m hlt
    by_cases g2 : 1048576 < t + (16 + (K m).size)
    · go_wp2
      go_ret
      exact ⟨rfl, Below.refl _ _⟩
    · go_wp2
      go_round
      case rel => exact ⟨m + 1, _, by omega, by go_num, rfl, by omega, by omega⟩
      case measure => simp [intOf]; omega
  have hmn : m = n0 := by omega
  subst hmn
  clear hlt hm
  go_wp2
  go_loop [9, 11] (fun z j => ∃ (i : Nat) (t : Int), i ≤ n2 ∧ j = .int .i64 i ∧ z = .int .i64 t ∧ 0 ≤ t ∧ t ≤ 2097152) (fun _ j => n2 - (intOf j).toNat)
  case atStart => exact ⟨0, _, Nat.zero_le _, rfl, rfl, by omega, by omega⟩
  case round =>
  clear ht0 ht1
  obtain ⟨i, t', hi, rfl, rfl, ht0, ht1⟩ := hrel
  by_cases hlt : i < n2
  · have hcx : w.cell? ⟨b2, o2 + i, none⟩ = some (.string (T i)) := st.cell i hlt
    have hTi := HTb.out i hlt
    by_cases g2 : 1048576 < t' + (16 + (T i).size)
    · go_wp2
      go_ret
      exact ⟨rfl, Below.refl _ _⟩
    · go_wp2
      go_round
      case rel => exact ⟨i + 1, _, by omega, by go_num, rfl, by omega, by omega⟩
      case measure => simp [intOf]; omega
  have hin : i = n2 := by omega
  subst hin
  clear hlt hi ht0 ht1
  go_wp2_with fail
  refine (min_nat _ _ _).mono ?_
  rintro e w' ⟨nk, rfl, hk0, hk1, hw'⟩; subst w'
  go_wp2_with fail
  refine (min_nat _ _ _).mono ?_
  rintro e w' ⟨nt, rfl, hk2, hk3, hw'⟩; subst w'
  go_wp2_with fail
  go_loopw [15] (fun x wr => ∃ j : Nat, j ≤ nk ∧ x = .int .i64 j ∧ wr.ownsMap Try.prog 9 (plainElem Try.prog 3) w.heap.size j (Plain.D1 (H := Unit) K V j) ∧ Below w.heap.size w wr) (fun x _ => nk - (intOf x).toNat)
  case atStart => exact ⟨0, Nat.zero_le _, rfl, World.ownsMap_made _ _ _ _, (Below.refl _ _).alloc (Nat.le_refl _) _⟩
  case round =>
  obtain ⟨j, hj, rfl, hown, hnx⟩ := hrel
  by_cases hlt : j < nk
  · have hcx : wr.cell? ⟨b0, o0 + j, none⟩ = some (.string (K j)) := (sk.later hnx).cell j (by omega)
    have hvx : wr.cell? ⟨b1, o1 + j, none⟩ = some (.int .i64 (V j)) := (sv.later hnx).cell j (by omega)
    have hj0 : j < m := by omega
    have hj1 : j < n1 := by omega
    obtain ⟨w2, hrun2, hown2, hturn2⟩ := (show wr.drew.ownsMap _ _ _ _ _ _ from hown).store law Try.underlying26 (by unfold maxLen; omega) (keyOf_string_mk Try.underlying9 (HK.out j)) (plainElem_int Try.underlying3 (HV.out j))
    have R1 : Hid (w2.ownsMap Try.prog 9 (plainElem Try.prog 3) w.heap.size (j + 1) (Plain.D1 (H := Unit) K V (j + 1))) := hown2
    have R2 : Hid (Below w.heap.size w w2) := hnx.grown (show wr.grownBy w2 _ from (grownBy_drewN wr 1 _).trans hturn2.grown) hnx.size (fun j hj => by cases hj; exact Nat.le_refl _)
    clear hown2 hturn2 hown
    go_wp2
    go_region
    go_wp2
    go_roundw
    case rel => exact ⟨j + 1, by omega, by go_num, R1.out, R2.out⟩
    case measure => simp [intOf]; omega
  have hjn : j = nk := by omega
  subst hjn
  clear hlt hj
  go_wp2_with fail
  refine (newParser_any _ _).mono ?_
  rintro e wp ⟨rfl, hpc, hpg, hps⟩
  have hownp := hown.kept hpg (by simp)
  have hnxp := hnx.grown hpg hnx.size (fun j hj => by cases hj)
  have hMP : w.heap.size < wr.heap.size := hown.lt
  clear hown hnx
  generalize wr.heap.size = PB at *
  go_wp2_with fail
  go_loopw [17] (fun x wz => ∃ q : Nat, q ≤ nt ∧ x = .int .i64 q ∧ wz.ownsMap Try.prog 9 (plainElem Try.prog 3) w.heap.size (j + q) (Plain.D2 (H := Unit) K V j T P q) ∧ Below w.heap.size w wz ∧ wz.cell? ⟨PB, 16, none⟩ = some (.map (some w.heap.size)) ∧ PB < wz.heap.size) (fun x _ => nt - (intOf x).toNat)
  case atStart => exact ⟨0, Nat.zero_le _, rfl, hownp, hnxp, hpc, hps⟩
  case round =>
  clear hownp hnxp hpc hps hpg
  obtain ⟨q, hq, rfl, hown, hnx, hpc, hps⟩ := hrel
  by_cases hlt : q < nt
  · have hcx : wr.cell? ⟨b2, o2 + q, none⟩ = some (.string (T q)) := (st.later hnx).cell q (by omega)
    have hvx : wr.cell? ⟨b3, o3 + q, none⟩ = some (.int .i64 (P q)) := (sp.later hnx).cell q (by omega)
    have hq0 : q < i := by omega
    have hq1 : q < n3 := by omega
    have HC : Hid (Calls Try.prog 7 #[.pointer (some ⟨PB, 0, none⟩), .string (T q), .int .i64 (P q)] wr.drew fun e w' => e = .returned (.tuple #[]) ∧ w'.ownsMap Try.prog 9 (plainElem Try.prog 3) w.heap.size (j + q + 1) (Plain.D2 (H := Unit) K V j T P (q + 1)) ∧ wr.drew.grownBy w' (some w.heap.size)) :=
      zzNoteUse_any PB w.heap.size (j + q) (T q) (P q) _ wr.drew (HT.out q) (Plain.D2_at K V j T P (T q) q) hown (by unfold maxLen; omega) (HP.out q) hpc hps
    go_wp2_with fail
    go_region_with (go_at_call 7; refine HC.out.mono ?_; rintro e w1 ⟨rfl, h1, h2⟩)
    all_goals
      have R1 : Hid (w1.ownsMap Try.prog 9 (plainElem Try.prog 3) w.heap.size (j + (q + 1)) (Plain.D2 (H := Unit) K V j T P (q + 1))) := h1
      have R2 : Hid (Below w.heap.size w w1) := hnx.grown (show wr.grownBy w1 _ from (grownBy_drewN wr 1 _).trans h2) hnx.size (fun j hj => by cases hj; exact Nat.le_refl _)
      have R3 : w1.cell? ⟨PB, 16, none⟩ = some (.map (some w.heap.size)) := h2.cell (show wr.drew.cell? _ = _ from hpc) (by simp; omega)
      have R4 : PB < w1.heap.size := Nat.lt_of_lt_of_le hps h2.size
      clear h1 h2 HC hown hnx hpc hps hcx hvx
      go_wp2
      go_roundw
      case rel => exact ⟨q + 1, by omega, by go_num, R1.out, R2.out, R3, R4⟩
      case measure => simp [intOf]; omega
  have hqn : q = nt := by omega
  subst hqn
  clear hlt hq
  have hlen : ∀ ty, (Builtin.len_ #[26] ty #[.map (some w.heap.size)]).run Try.prog wr = .ok (.int .i64 ((Plain.cnt K j + Plain.cnt2 K V j T q : Nat) : Int)) wr := fun ty => by
    have := hown.len Try.underlying26 ty
    rw [Plain.D2_size] at this
    exact this
  have HL : Hid (∀ s : ByteArray, s.size ≤ maxLen → (Instr.lookup 26 (.map (some w.heap.size)) (.string s) true).run Try.prog wr = .ok (.tuple #[.int .i64 ((Plain.expd K V j T P q s).getD 0), .bool (Plain.seen K j s || Plain.seen T q s)]) wr) := fun s hs => by
    rw [← Plain.D2_has (H := Unit) K V j T P s q]
    exact look_eq hs (Plain.D2_at K V j T P s q) hown
  have HX : Hid (∀ k : ByteArray, Calls Try.prog 11 #[.slice a0 m c0, .slice a1 n1 c1, .int .i64 j, .slice a2 i c2, .slice a3 n3 c3, .int .i64 q, .string k] wr fun x w' => x = .returned (.tuple #[.int .i64 ((Plain.expd K V j T P q k).getD 0), .bool (Plain.expd K V j T P q k).isSome]) ∧ w' = wr) := fun k =>
    expd_any a0 a1 m c0 b0 o0 n1 c1 b1 o1 j K V a2 a3 i c2 b2 o2 n3 c3 b3 o3 q T P k wr (sk.later hnx) (sv.later hnx) (st.later hnx) (sp.later hnx) hk0 hk1 (by omega) hk2 hk3 (by omega)
  have HI : Hid (∀ k : ByteArray, Calls Try.prog 10 #[.slice a0 m c0, .slice a1 n1 c1, .int .i64 j, .string k] wr fun x w' => x = .returned (.tuple #[.int .i64 ((Plain.lastI K V j k).getD 0), .bool (Plain.lastI K V j k).isSome]) ∧ w' = wr) := fun k =>
    last_any a0 a1 m c0 b0 o0 n1 c1 b1 o1 j K V k wr (sk.later hnx) (sv.later hnx) hk0 hk1 (by omega)
  have HSk : Hid (∀ (r : Nat) (k : ByteArray), r ≤ m → Calls Try.prog 9 #[.slice a0 m c0, .int .i64 r, .string k] wr fun x w' => x = .returned (.bool (Plain.seen K r k)) ∧ w' = wr) := fun r k hr =>
    seen_any a0 m c0 b0 o0 r K k wr (sk.later hnx) hr (by omega)
  have HSt : Hid (∀ (r : Nat) (k : ByteArray), r ≤ i → Calls Try.prog 9 #[.slice a2 i c2, .int .i64 r, .string k] wr fun x w' => x = .returned (.bool (Plain.seen T r k)) ∧ w' = wr) := fun r k hr =>
    seen_any a2 i c2 b2 o2 r T k wr (st.later hnx) hr (by omega)
  have HCk : Hid (∀ k, k < m → wr.cell? ⟨b0, o0 + k, none⟩ = some (.string (K k))) := (sk.later hnx).cell
  have HCt : Hid (∀ k, k < i → wr.cell? ⟨b2, o2 + k, none⟩ = some (.string (T k))) := (st.later hnx).cell
  have HN : Hid (Below w.heap.size w wr) := hnx
  clear hown hnx sk sv st sp HKb HTb HV HP hmm
  go_wp2_with fail
  refine (firstUse_any w.heap.size PB _ hpc).mono ?_
  rintro e w' ⟨rfl, hw'⟩; subst w'
  clear hpc hps
  go_wp2_with fail
  go_loop [19, 20] (fun x y => ∃ (r z : Nat), r ≤ j ∧ y = .int .i64 r ∧ x = .int .i64 z ∧ z ≤ r ∧ Hid (z = Plain.cnt K r)) (fun _ y => j - (intOf y).toNat)
  case atStart => exact ⟨0, 0, Nat.zero_le _, rfl, rfl, Nat.le_refl _, rfl⟩
  case round =>
  obtain ⟨r, z, hr, rfl, rfl, hzr, hz⟩ := hrel
  by_cases hlt : r < j
  · have hcx := HCk.out r (by omega)
    have hrm : r < m := by omega
    have HS := HSk.out r (K r) (by omega)
    cases hb : Plain.seen K r (K r)
    · have hfin : Hid (z + 1 = Plain.cnt K (r + 1)) := by show z + 1 = _; rw [Plain.cnt, hb, ← hz.out]; rfl
      rw [hb] at HS
      have HS' : Hid (Calls Try.prog 9 _ _ _) := HS
      clear HS hb
      go_wp2_with fail
      refine HS'.out.mono ?_
      rintro e w' ⟨rfl, hw'⟩; subst w'
      go_wp2_with fail
      go_round
      case rel => exact ⟨r + 1, z + 1, by omega, by go_num, by go_num, by omega, hfin⟩
      case measure => simp [intOf]; omega
    · have hfin : Hid (z = Plain.cnt K (r + 1)) := by show z = _; rw [Plain.cnt, hb, ← hz.out]; rfl
      rw [hb] at HS
      have HS' : Hid (Calls Try.prog 9 _ _ _) := HS
      clear HS hb
      go_wp2_with fail
      refine HS'.out.mono ?_
      rintro e w' ⟨rfl, hw'⟩; subst w'
      go_wp2_with fail
      go_round
      case rel => exact ⟨r + 1, z, by omega, by go_num, rfl, by omega, hfin⟩
      case measure => simp [intOf]; omega
  have hrj : r = j := by omega
  subst hrj
  clear hlt hr HSk
  go_wp2_with fail
  go_loop [19, 21] (fun x y => ∃ (u v : Nat), u ≤ q ∧ y = .int .i64 u ∧ x = .int .i64 v ∧ v ≤ r + u ∧ Hid (v = Plain.cnt K r + Plain.cnt2 K V r T u)) (fun _ y => q - (intOf y).toNat)
  case atStart => exact ⟨0, z, Nat.zero_le _, rfl, rfl, by omega, by show z = _; rw [hz.out]; rfl⟩
  case round =>
  obtain ⟨u, v, hu, rfl, rfl, hvu, hv⟩ := hrel
  by_cases hlt : u < q
  · have hcx := HCt.out u (by omega)
    have hui : u < i := by omega
    have HS := HSt.out u (T u) (by omega)
    have HJ := HI.out (T u)
    have hstep : Plain.cnt2 K V r T (u + 1) = Plain.cnt2 K V r T u + if (!(Plain.lastI K V r (T u)).isSome && !Plain.seen T u (T u)) then 1 else 0 := rfl
    cases hc : (Plain.lastI K V r (T u)).isSome
    · rw [hc] at HJ hstep
      generalize (Plain.lastI K V r (T u)).getD 0 = g at HJ
      cases hb : Plain.seen T u (T u)
      · rw [hb] at HS hstep
        have hfin : Hid (v + 1 = Plain.cnt K r + Plain.cnt2 K V r T (u + 1)) := by show v + 1 = _; rw [hstep, hv.out]; rfl
        have HS' : Hid (Calls Try.prog 9 _ _ _) := HS
        have HJ' : Hid (Calls Try.prog 10 _ _ _) := HJ
        clear HS HJ hb hc hstep
        go_wp2_with fail
        refine HJ'.out.mono ?_
        rintro e w' ⟨rfl, hw'⟩; subst w'
        go_wp2_with fail
        refine HS'.out.mono ?_
        rintro e w' ⟨rfl, hw'⟩; subst w'
        go_wp2_with fail
        go_round
        case rel => exact ⟨u + 1, v + 1, by omega, by go_num, by go_num, by omega, hfin⟩
        case measure => simp [intOf]; omega
      · rw [hb] at HS hstep
        have hfin : Hid (v = Plain.cnt K r + Plain.cnt2 K V r T (u + 1)) := by show v = _; rw [hstep, hv.out]; rfl
        have HS' : Hid (Calls Try.prog 9 _ _ _) := HS
        have HJ' : Hid (Calls Try.prog 10 _ _ _) := HJ
        clear HS HJ hb hc hstep
        go_wp2_with fail
        refine HJ'.out.mono ?_
        rintro e w' ⟨rfl, hw'⟩; subst w'
        go_wp2_with fail
        refine HS'.out.mono ?_
        rintro e w' ⟨rfl, hw'⟩; subst w'
        go_wp2_with fail
        go_round
        case rel => exact ⟨u + 1, v, by omega, by go_num, rfl, by omega, hfin⟩
        case measure => simp [intOf]; omega
    · rw [hc] at HJ hstep
      generalize (Plain.lastI K V r (T u)).getD 0 = g at HJ
      have hfin : Hid (v = Plain.cnt K r + Plain.cnt2 K V r T (u + 1)) := by show v = _; rw [hstep, hv.out]; rfl
      have HJ' : Hid (Calls Try.prog 10 _ _ _) := HJ
      clear HS HJ hc hstep
      go_wp2_with fail
      refine HJ'.out.mono ?_
      rintro e w' ⟨rfl, hw'⟩; subst w'
      go_wp2_with fail
      go_round
      case rel => exact ⟨u + 1, v, by omega, by go_num, rfl, by omega, hfin⟩
      case measure => simp [intOf]; omega
  have huq : u = q := by omega
  subst huq
  clear hlt hu HSt HI
  rw [← hv.out] at hlen
  go_wp2_with fail
  go_loop [24] (fun y => ∃ f : Nat, f ≤ r ∧ y = .int .i64 f) (fun y => r - (intOf y).toNat)
  case atStart => exact ⟨0, Nat.zero_le _, rfl⟩
  case round =>
  obtain ⟨f, hf, rfl⟩ := hrel
  by_cases hlt : f < r
  · have hcx := HCk.out f (by omega)
    have hfm : f < m := by omega
    have hlk := HL.out (K f) (HK.out f)
    rw [show (Plain.seen K r (K f) || Plain.seen T u (K f)) = true from by rw [Plain.seen_at K r hlt]; rfl] at hlk
    have HS := HX.out (K f)
    generalize (Plain.expd K V r T P u (K f)).isSome = g at HS
    generalize (Plain.expd K V r T P u (K f)).getD 0 = x at HS hlk
    have HS' : Hid (Calls Try.prog 11 _ _ _) := HS
    clear HS
    go_wp2_with fail
    refine HS'.out.mono ?_
    rintro e w' ⟨rfl, hw'⟩; subst w'
    go_wp2_with fail
    go_round
    case rel => exact ⟨f + 1, by omega, by go_num⟩
    case measure => simp [intOf]; omega
  have hfr : f = r := by omega
  subst hfr
  clear hlt hf
  go_wp2_with fail
  go_loop [29] (fun y => ∃ d : Nat, d ≤ u ∧ y = .int .i64 d) (fun y => u - (intOf y).toNat)
  case atStart => exact ⟨0, Nat.zero_le _, rfl⟩
  case round =>
  obtain ⟨d, hd, rfl⟩ := hrel
  by_cases hlt : d < u
  · have hcx := HCt.out d (by omega)
    have hdi : d < i := by omega
    have hlk := HL.out (T d) (HT.out d)
    rw [show (Plain.seen K f (T d) || Plain.seen T u (T d)) = true from by rw [Plain.seen_at T u hlt]; simp] at hlk
    have HS := HX.out (T d)
    generalize (Plain.expd K V f T P u (T d)).isSome = g at HS
    generalize (Plain.expd K V f T P u (T d)).getD 0 = x at HS hlk
    have HS' : Hid (Calls Try.prog 11 _ _ _) := HS
    clear HS
    go_wp2_with fail
    refine HS'.out.mono ?_
    rintro e w' ⟨rfl, hw'⟩; subst w'
    go_wp2_with fail
    go_round
    case rel => exact ⟨d + 1, by omega, by go_num⟩
    case measure => simp [intOf]; omega
  go_wp2_with fail
  go_ret
  exact ⟨rfl, HN.out⟩

end Go.Proofs.Qxb6618409a.NoteUse
