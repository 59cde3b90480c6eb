/-
  zzAppendHex, zzAppendPoint.
-/
import Derived.Test.Qxb6618447aDoorRunes
namespace Go.Proofs.Qxb6618447aDoor.Glob
open Go Go.RowKit
open Go.WideShapes (add_plain)

/-- v is the call's own row of bytes, l. -/
def Row (B : Nat) (w : World) (v : Value) (l : List UInt8) : Prop := w.ownsRow B 5 1 v l.length (Lib.byteCells l)

theorem row_nil (B : Nat) (w : World) : Row B w (.slice none 0 0) [] := World.ownsRow_nil w B 5 1

theorem oneCells (l : List UInt8) : ∀ u ∈ Lib.byteCells l, u.oneCell' = true := by
  intro u hu
  obtain ⟨b, _, rfl⟩ := List.mem_map.1 hu
  rfl

/-- A block's cells from k on, as what an append hands over. -/
theorem news_of {w : World} {D k : Nat} {arr : Array Value} {T : TypeId} {N : Nat} {l : List UInt8} (hb : w.heap[D]? = some (.cells arr T (0, 0))) (h : tailIs N arr k l) :
    ∀ j u, (Lib.byteCells l)[j]? = some u → w.cell? ((⟨D, k, none⟩ : Addr).add j) = some u := by
  intro j u hu
  rw [add_plain, Lib.cell_of_heap hb]
  have hj : j < l.length := by
    have := (List.getElem?_eq_some_iff.1 hu).1
    simpa [Lib.byteCells] using this
  rw [tailIs_cell h j hj, ← hu]
  simp [Lib.byteCells, List.getElem?_eq_getElem hj]

theorem news_new (w : World) (cs : Array Value) (l : List UInt8) {T : TypeId} (h : cs.toList = Lib.byteCells l) : ∀ j u, (Lib.byteCells l)[j]? = some u → (w.alloc (.cells cs T)).cell? ((⟨w.heap.size, 0, none⟩ : Addr).add j) = some u := by
  intro j u hu
  rw [add_plain, Lib.cell_of_heap (heap_alloc_new w _), Nat.zero_add, ← hu, ← h]
  simp

/-- An append of bytes onto an own row, as the walk takes it. -/
theorem row_append {P : Program} {w : World} {ops : Array Oper} {rest : List Oper} {o : Oper} {a : Act} {Q : Exit → Act → World → Prop} (hP : P = Tryd.prog) (hgd : o.guard = none) (s x : Operand)
    (ho : o.op = .call { callee := .builtin .append, args := #[s, x], argTypes := #[26, 26] })
    (B : Nat) (v : Value) (l : List UInt8) (hs : a.eval s = v) (hown : Row B w v l)
    (ad : Addr) (m c : Nat) (news : List UInt8) (hx : a.eval x = .slice (some ad) m c) (hm : news.length = m)
    (hnews : ∀ j u, (Lib.byteCells news)[j]? = some u → w.cell? (ad.add j) = some u) (hlen : l.length + news.length ≤ 140737488355328) (hbase : B ≤ w.heap.size)
    (h : ∀ v' w', Row B w' v' (l ++ news) → w.grownBy w' v.ownBlock → wpList P ops Q rest (a.put o.dst v') w') : wpList P ops Q (o :: rest) a w := by
  subst hP
  obtain ⟨i0, hi, hz0, hz1, hz2⟩ := info_parts infoByte
  refine wpList_append_own w hgd s x 26 ho B 5 i0 (.int .u8 0) 1 1 Tryd.underlying26 hi hz0 hz1 hz2 rfl (by decide) v l.length (Lib.byteCells l) hs hown ad m c (Lib.byteCells news) hx
    (by rw [Lib.byteCells_length, hm]; omega) hnews (oneCells news) (by unfold maxLen; omega) (by omega) hbase ?_
  intro v' w' h1 h2 _
  refine h v' w' ?_ h2
  unfold Row
  rw [cells_append, List.length_append, hm]
  exact h1

def zer16 : Array Value := Array.replicate 16 (.int .u8 0)
theorem zero32 (w : World) : (zeroValue 32).run Tryd.prog w = .ok (.agg zer16) w := by kernel_rfl
theorem tailIs_start16 : tailIs 16 zer16 16 [] := ⟨by simp [zer16], Nat.le_refl _, by simp [zer16]⟩
theorem slice32 (b k : Nat) (hk : k < 16) (W : World) : (Instr.sliceAt 32 (.pointer (some ⟨b, 0, none⟩)) (some (.int .i64 (k : Int))) none none).run Tryd.prog W = .ok (.slice (some ⟨b, k, none⟩) (16 - k) (16 - k)) W :=
  sliceAt_tail 32 16 b k (by kernel_rfl) (by kernel_rfl) (by kernel_rfl) hk W

set_option maxHeartbeats 1000000 in
theorem hex_zero (B : Nat) (v : Value) (l : List UInt8) (w : World) (hr : Row B w v l) (hl : l.length ≤ 1048576) (hB : B ≤ w.heap.size) :
    Calls Tryd.prog 10 #[v, .int .u64 0] w fun e w' => ∃ v', e = .returned v' ∧ Row B w' v' (l ++ [48]) ∧ Below B w w' := by
  go_enter Tryd.func10, Tryd.ntmps10
  go_wp2_with (at_builtin; refine row_append rfl rfl _ _ rfl B v l rfl (hr.alloc _) ⟨w.heap.size, 0, none⟩ 1 1 [48] rfl rfl ?c1 ?c2 ?c3 ?_)
  case c1 => exact news_new w _ _ rfl
  case c2 => simp; omega
  case c3 => simp; omega
  intro v' w1 h1 hg
  go_wp2
  go_ret
  exact ⟨v', rfl, h1, ((Below.refl B w).alloc hB _).grown hg (by simp; omega) (fun k hk => (hr.lt k hk).1)⟩

theorem tailIs_step_val {N : Nat} {arr : Array Value} {k : Nat} {tail : List UInt8} (h : tailIs N arr (k + 1) tail) (b : UInt8) {z : Int} (hz : z = (b.toNat : Int)) : tailIs N (arr.setIfInBounds k (.int .u8 z)) k (b :: tail) := by
  subst hz; exact tailIs_step h b
theorem dg_lo {d : Nat} (h : d < 10) : ((Plain.dg d).toNat : Int) = 48 + d := by
  unfold Plain.dg; rw [if_pos h, UInt8.toNat_ofNat']; omega
theorem dg_hi {d : Nat} (h : 10 ≤ d) (h' : d < 16) : ((Plain.dg d).toNat : Int) = 87 + d := by
  unfold Plain.dg; rw [if_neg (by omega), UInt8.toNat_ofNat']; omega

/-- What the digits still to come and those written make together. -/
def left (u x : Nat) (tail : List UInt8) : Prop := (0 < x ∧ Plain.hexs u = Plain.hexs x ++ tail) ∨ (x = 0 ∧ Plain.hexs u = tail)
theorem left_step {u x : Nat} {tail : List UInt8} (h : left u x tail) (hx : 0 < x) (hb : x < 4294967296) : left u (x / 16) (Plain.dg (x % 16) :: tail) := by
  rcases h with ⟨_, h⟩ | ⟨h, _⟩
  · by_cases h16 : 16 ≤ x
    · left; refine ⟨by omega, ?_⟩
      rw [h, Plain.hexs_step h16 (by omega)]; simp
    · right; refine ⟨by omega, ?_⟩
      rw [h, Plain.hexs_lt (by omega), Nat.mod_eq_of_lt (by omega)]; rfl
  · omega
theorem bound8 {x k : Nat} (h : x < 16 ^ (k - 8)) (hx : 0 < x) : ∃ k', k = k' + 1 ∧ 8 ≤ k' ∧ x / 16 < 16 ^ (k' - 8) := by
  have h2 : 1 ≤ k - 8 := by
    rcases Nat.lt_or_ge (k - 8) 1 with hlt | hge
    · have : k - 8 = 0 := by omega
      rw [this] at h; simp at h; omega
    · exact hge
  refine ⟨k - 1, by omega, by omega, ?_⟩
  have e : k - 8 = (k - 1 - 8) + 1 := by omega
  rw [e, Nat.pow_succ] at h
  omega

set_option maxHeartbeats 1000000 in
set_option maxRecDepth 100000 in
theorem hex_pos (B : Nat) (v : Value) (l : List UInt8) (u : Nat) (w : World) (hr : Row B w v l) (hl : l.length ≤ 1048576) (hB : B ≤ w.heap.size) (hu0 : 0 < u) (hu : u < 4294967296) :
    Calls Tryd.prog 10 #[v, .int .u64 u] w fun e w' => ∃ v', e = .returned v' ∧ Row B w' v' (l ++ Plain.hexs u) ∧ Below B w w' := by
  have hz := zero32
  have hu1 : ((u : Int) == 0) = false := beq_eq_false_iff_ne.2 (by omega)
  go_enter Tryd.func10, Tryd.ntmps10
  go_wp2_with fail
  clear hz
  go_loopw [1, 6] (fun uu ii wr => ∃ (x k : Nat) (arr : Array Value) (tail : List UInt8), uu = .int .u64 x ∧ ii = .int .i64 k ∧ wr = w.alloc (.cells arr 32) ∧ x < 4294967296 ∧ 8 ≤ k ∧ k ≤ 16 ∧ Hid (tailIs 16 arr k tail) ∧ Hid (left u x tail) ∧ Hid (x < 16 ^ (k - 8)))
    (fun uu _ _ => (intOf uu).toNat)
  case atStart => exact ⟨u, 16, zer16, [], rfl, rfl, rfl, hu, by omega, by omega, tailIs_start16, .inl ⟨hu0, by simp⟩, by simpa [Hid] using hu⟩
  case round =>
  obtain ⟨x, k, arr, tail, rfl, rfl, rfl, hx, hk0, hk1, htl, hlf, hbd⟩ := hrel
  by_cases hx0 : 0 < x
  · obtain ⟨k, rfl, hk', hbd'⟩ := bound8 hbd.out hx0
    have hsz : arr.size = 16 := htl.out.1
    obtain ⟨old, hold⟩ : ∃ old, arr[k]? = some old := ⟨arr[k], Array.getElem?_eq_getElem (by omega)⟩
    have R2 : Hid (left u (x / 16) (Plain.dg (x % 16) :: tail)) := left_step hlf.out hx0 hx
    have R3 : Hid (x / 16 < 16 ^ (k - 8)) := hbd'
    clear hbd' hbd hlf
    by_cases hd : x % 16 < 10
    · have hdg := dg_lo hd
      have HD : Hid (((Plain.dg (x % 16)).toNat : Int) = 48 + (x % 16 : Nat)) := hdg
      clear hdg
      go_wp2
      exact ⟨⟨x / 16, k, _, _, by go_num, rfl, rfl, by omega, by omega, by omega, tailIs_step_val htl.out _ (by rw [HD.out]; omega), R2, R3⟩, by simp [intOf]; omega⟩
    · have hdg := dg_hi (by omega : 10 ≤ x % 16) (by omega)
      have HD : Hid (((Plain.dg (x % 16)).toNat : Int) = 87 + (x % 16 : Nat)) := hdg
      clear hdg
      go_wp2
      exact ⟨⟨x / 16, k, _, _, by go_num, rfl, rfl, by omega, by omega, by omega, tailIs_step_val htl.out _ (by rw [HD.out]; omega), R2, R3⟩, by simp [intOf]; omega⟩
  have hx00 : x = 0 := by omega
  subst hx00
  have ht : Plain.hexs u = tail := by
    rcases hlf.out with ⟨h, _⟩ | ⟨_, h⟩
    · omega
    · exact h
  have htl' := htl.out
  rw [← ht] at htl'
  have hlen := tailIs_len htl'
  have hk2 : k < 16 := by
    have := Plain.hexs_ne u
    rcases Nat.lt_or_ge k 16 with h | h
    · exact h
    · exact absurd (List.length_eq_zero_iff.1 (by omega)) this
  have hsl := slice32 w.heap.size k hk2
  have HT : Hid (tailIs 16 arr k (Plain.hexs u)) := htl'
  have HL : Hid ((Plain.hexs u).length = 16 - k) := hlen
  clear htl htl' hlen ht hlf hbd hx
  go_wp2_with (at_builtin; refine row_append rfl rfl _ _ rfl B v l rfl (hr.alloc _) ⟨w.heap.size, k, none⟩ (16 - k) (16 - k) (Plain.hexs u) rfl HL.out (news_of (heap_alloc_new w _) HT.out) ?c2 ?c3 ?_)
  case c2 => have := HL.out; omega
  case c3 => simp; omega
  intro v' w1 h1 hg
  go_wp2
  go_ret
  exact ⟨v', rfl, h1, ((Below.refl B w).alloc hB _).grown hg (by simp; omega) (fun k hk => (hr.lt k hk).1)⟩

theorem hex_any (B : Nat) (v : Value) (l : List UInt8) (u : Nat) (w : World) (hr : Row B w v l) (hl : l.length ≤ 1048576) (hB : B ≤ w.heap.size) (hu : u < 4294967296) :
    Calls Tryd.prog 10 #[v, .int .u64 u] w fun e w' => ∃ v', e = .returned v' ∧ Row B w' v' (l ++ Plain.hexs u) ∧ Below B w w' := by
  by_cases h0 : u = 0
  · subst h0
    exact hex_zero B v l w hr hl hB
  · exact hex_pos B v l u w hr hl hB (by omega) hu

set_option maxHeartbeats 1000000 in
/-- zzAppendPoint. -/
theorem point_pos (B : Nat) (v : Value) (l : List UInt8) (m : Nat) (w : World) (hr : Row B w v l) (hl : l.length ≤ 1000000) (hB : B ≤ w.heap.size) (hm : m ≤ 2147483647) :
    Calls Tryd.prog 7 #[v, .int .i32 m] w fun e w' => ∃ v', e = .returned v' ∧ Row B w' v' (l ++ Plain.point m) ∧ Below B w w' := by
  go_enter Tryd.func7, Tryd.ntmps7
  go_wp2_with (at_builtin; refine row_append rfl rfl _ _ rfl B v l rfl (hr.alloc _) ⟨w.heap.size, 0, none⟩ 3 3 [92, 120, 123] rfl rfl ?c1 ?c2 ?c3 ?_)
  case c1 => exact news_new w _ _ rfl
  case c2 => simp; omega
  case c3 => simp; omega
  intro v1 w1 h1 hg1
  have b1 : Below B w w1 := ((Below.refl B w).alloc hB _).grown hg1 (by simp; omega) (fun k hk => (hr.lt k hk).1)
  have s1 : B ≤ w1.heap.size := Nat.le_trans hB b1.size
  clear hg1
  go_wp2_with fail
  refine (hex_any B v1 (l ++ [92, 120, 123]) m w1 h1 (by simp; omega) s1 (by omega)).mono ?_
  rintro e w2 ⟨v2, rfl, h2, b2⟩
  have s2 : B ≤ w2.heap.size := Nat.le_trans s1 b2.size
  have hle := Plain.hexs_len m
  go_wp2_with (at_builtin; refine row_append rfl rfl _ _ rfl B v2 _ rfl (h2.alloc _) ⟨w2.heap.size, 0, none⟩ 1 1 [125] rfl rfl ?d1 ?d2 ?d3 ?_)
  case d1 => exact news_new w2 _ _ rfl
  case d2 => simp; omega
  case d3 => simp; omega
  intro v3 w3 h3 hg3
  have b3 : Below B w2 w3 := ((Below.refl B w2).alloc s2 _).grown hg3 (by simp; omega) (fun k hk => (h2.lt k hk).1)
  go_wp2
  go_ret
  refine ⟨v3, rfl, ?_, (b1.trans b2).trans b3⟩
  have e : l ++ Plain.point m = l ++ [92, 120, 123] ++ Plain.hexs m ++ [125] := by
    unfold Plain.point; rw [shex_pos (by omega), Int.natAbs_natCast]; simp
  rw [e]; simpa using h3

set_option maxHeartbeats 1000000 in
theorem point_neg (B : Nat) (v : Value) (l : List UInt8) (r : Int) (w : World) (hr : Row B w v l) (hl : l.length ≤ 1000000) (hB : B ≤ w.heap.size) (h0 : -2147483648 ≤ r) (h1 : r < 0) :
    Calls Tryd.prog 7 #[v, .int .i32 r] w fun e w' => ∃ v', e = .returned v' ∧ Row B w' v' (l ++ Plain.point r) ∧ Below B w w' := by
  obtain ⟨m, hm⟩ : ∃ m : Nat, -r = (m : Int) := ⟨r.natAbs, by omega⟩
  have hmn : r.natAbs = m := by omega
  have HM : Hid (r.natAbs = m) := hmn
  have hm1 : m ≤ 2147483648 := by omega
  clear hmn
  go_enter Tryd.func7, Tryd.ntmps7
  go_wp2_with (at_builtin; refine row_append rfl rfl _ _ rfl B v l rfl (hr.alloc _) ⟨w.heap.size, 0, none⟩ 3 3 [92, 120, 123] rfl rfl ?c1 ?c2 ?c3 ?_)
  case c1 => exact news_new w _ _ rfl
  case c2 => simp; omega
  case c3 => simp; omega
  intro v1 w1 h1 hg1
  have b1 : Below B w w1 := ((Below.refl B w).alloc hB _).grown hg1 (by simp; omega) (fun k hk => (hr.lt k hk).1)
  have s1 : B ≤ w1.heap.size := Nat.le_trans hB b1.size
  clear hg1
  go_wp2_with (at_builtin; refine row_append rfl rfl _ _ rfl B v1 _ rfl (h1.alloc _) ⟨w1.heap.size, 0, none⟩ 1 1 [45] rfl rfl ?e1 ?e2 ?e3 ?_)
  case e1 => exact news_new w1 _ _ rfl
  case e2 => simp; omega
  case e3 => simp; omega
  intro va wa ha hga
  have ba : Below B w1 wa := ((Below.refl B w1).alloc s1 _).grown hga (by simp; omega) (fun k hk => (h1.lt k hk).1)
  have sa : B ≤ wa.heap.size := Nat.le_trans s1 ba.size
  clear hga
  go_wp2_with fail
  refine (hex_any B va _ m wa ha (by simp; omega) sa (by omega)).mono ?_
  rintro e w2 ⟨v2, rfl, h2, b2⟩
  have s2 : B ≤ w2.heap.size := Nat.le_trans sa b2.size
  have hle := Plain.hexs_len m
  go_wp2_with (at_builtin; refine row_append rfl rfl _ _ rfl B v2 _ rfl (h2.alloc _) ⟨w2.heap.size, 0, none⟩ 1 1 [125] rfl rfl ?d1 ?d2 ?d3 ?_)
  case d1 => exact news_new w2 _ _ rfl
  case d2 => simp; omega
  case d3 => simp; omega
  intro v3 w3 h3 hg3
  have b3 : Below B w2 w3 := ((Below.refl B w2).alloc s2 _).grown hg3 (by simp; omega) (fun k hk => (h2.lt k hk).1)
  go_wp2
  go_ret
  refine ⟨v3, rfl, ?_, ((b1.trans ba).trans b2).trans b3⟩
  have e : l ++ Plain.point r = l ++ [92, 120, 123] ++ [45] ++ Plain.hexs m ++ [125] := by
    unfold Plain.point; rw [shex_neg (by omega), HM.out]; simp
  rw [e]; simpa using h3

theorem point_any (B : Nat) (v : Value) (l : List UInt8) (r : Int) (w : World) (hr : Row B w v l) (hl : l.length ≤ 1000000) (hB : B ≤ w.heap.size) (h0 : -2147483648 ≤ r) (h1 : r ≤ 2147483647) :
    Calls Tryd.prog 7 #[v, .int .i32 r] w fun e w' => ∃ v', e = .returned v' ∧ Row B w' v' (l ++ Plain.point r) ∧ Below B w w' := by
  by_cases hr0 : r < 0
  · exact point_neg B v l r w hr hl hB h0 hr0
  · obtain ⟨m, rfl⟩ := Int.eq_ofNat_of_zero_le (by omega : 0 ≤ r)
    exact point_pos B v l m w hr hl hB (by omega)

end Go.Proofs.Qxb6618447aDoor.Glob
