/-
  strconv.FormatInt AT BASE 16.
-/
import Derived.Test.Qxb6618447aDoorRows
import Derived.Test.Qxb6618447aDoorPlain
import Derived.WalkKit
import Derived.WalkLawsBesides
import Derived.Laws.BitsAll
import Derived.Lib.Builder
namespace Go.Proofs.Qxb6618447aDoor.Glob
open Go Go.RowKit
open Go.WideShapes (add_plain)

theorem pow2_16 (w : World) : Calls Tryd.prog 25 #[.int .i64 16] w fun e w' => e = .returned (.bool true) ∧ w' = w := by
  go_enter Tryd.func25, Tryd.ntmps25
  go_wp2
  go_ret
  exact ⟨rfl, rfl⟩

theorem tz64_16 (w : World) (ht : w.cell? ⟨2, 15, none⟩ = some (.int .u8 4)) : Calls Tryd.prog 28 #[.int .u64 16] w fun e w' => e = .returned (.int .i64 4) ∧ w' = w := by
  have h1 : bits .and .u64 16 (IntKind.u64.wrap (-16)) = 16 := by kernel_rfl
  have h2 : IntKind.u64.wrap 4573923408821661840 / 288230376151711744 = 15 := by kernel_rfl
  go_enter Tryd.func28, Tryd.ntmps28
  go_wp2
  go_ret
  exact ⟨rfl, rfl⟩

theorem tz_16 (w : World) (ht : w.cell? ⟨2, 15, none⟩ = some (.int .u8 4)) : Calls Tryd.prog 26 #[.int .u64 16] w fun e w' => e = .returned (.int .i64 4) ∧ w' = w := by
  go_enter Tryd.func26, Tryd.ntmps26
  go_wp2_with fail
  refine (tz64_16 w ht).mono ?_
  rintro e w' ⟨rfl, hw'⟩; subst w'
  go_wp2_with fail
  go_ret
  exact ⟨rfl, rfl⟩

def zer65 : Array Value := Array.replicate 65 (.int .u8 0)
theorem zero55 (w : World) : (zeroValue 55).run Tryd.prog w = .ok (.agg zer65) w := by kernel_rfl

/-- The array's cells from k on hold 'tail'. -/
def tailIs (N : Nat) (arr : Array Value) (k : Nat) (tail : List UInt8) : Prop := arr.size = N ∧ k ≤ N ∧ arr.toList.drop k = tail.map (fun b => Value.int .u8 b.toNat)
theorem tailIs_start : tailIs 65 zer65 65 [] := ⟨by simp [zer65], Nat.le_refl _, by simp [zer65]⟩
theorem tailIs_step {N : Nat} {arr : Array Value} {k : Nat} {tail : List UInt8} (h : tailIs N arr (k + 1) tail) (b : UInt8) : tailIs N (arr.setIfInBounds k (.int .u8 b.toNat)) k (b :: tail) := by
  obtain ⟨h1, h2, h3⟩ := h
  refine ⟨by simpa using h1, by omega, ?_⟩
  have hk : k < arr.toList.length := by simp; omega
  rw [Array.toList_setIfInBounds, List.drop_set, if_neg (Nat.lt_irrefl _), Nat.sub_self, List.drop_eq_getElem_cons hk, List.set_cons_zero, h3]
  rfl
theorem tailIs_len {N : Nat} {arr : Array Value} {k : Nat} {tail : List UInt8} (h : tailIs N arr k tail) : tail.length = N - k := by
  obtain ⟨h1, h2, h3⟩ := h
  have := congrArg List.length h3
  simp [h1] at this
  omega
theorem tailIs_cell {N : Nat} {arr : Array Value} {k : Nat} {tail : List UInt8} (h : tailIs N arr k tail) (j : Nat) (hj : j < tail.length) : arr[k + j]? = some (.int .u8 (tail[j].toNat : Int)) := by
  obtain ⟨h1, h2, h3⟩ := h
  have h4 := congrArg (fun l => l[j]?) h3
  simp only [List.getElem?_drop, List.getElem?_map, List.getElem?_eq_getElem hj, Option.map_some, Array.getElem?_toList] at h4
  exact h4

/-- One digit out of the library's row of digits. -/
theorem digit_at (d : Nat) (hd : d < 16) (w : World) : (Instr.index 9 (.string { data := #[48, 49, 50, 51, 52, 53, 54, 55, 56, 57, 97, 98, 99, 100, 101, 102, 103, 104, 105, 106, 107, 108, 109, 110, 111, 112, 113, 114, 115, 116, 117, 118, 119, 120, 121, 122] }) (.int .u64 (d : Int))).run Tryd.prog w = .ok (.int .u8 ((Plain.dg d).toNat : Int)) w := by
  rcases d with _|_|_|_|_|_|_|_|_|_|_|_|_|_|_|_|d
  all_goals first | omega | kernel_rfl

theorem sliceAt_tail (T : TypeId) (N b k : Nat) (hA : Tryd.prog.arrayLen T = N) (hE : Tryd.prog.elem T = 5) (hT : Tryd.prog.underlying T = some (.array (Tryd.prog.arrayLen T) (Tryd.prog.elem T))) (hk : k < N) (W : World) :
    (Instr.sliceAt T (.pointer (some ⟨b, 0, none⟩)) (some (.int .i64 (k : Int))) none none).run Tryd.prog W = .ok (.slice (some ⟨b, k, none⟩) (N - k) (N - k)) W := by
  rw [run_sliceAt_array_l W T ⟨b, 0, none⟩ hT .i64 (k : Int) (by omega) (by rw [hA]; omega), hE, Tryd.sizeOf5, hA]
  have h1 : ¬ N = k := by omega
  simp [Result.andThen, slicedAt, h1, add_plain]
theorem slice55 (b k : Nat) (hk : k < 65) (W : World) : (Instr.sliceAt 55 (.pointer (some ⟨b, 0, none⟩)) (some (.int .i64 (k : Int))) none none).run Tryd.prog W = .ok (.slice (some ⟨b, k, none⟩) (65 - k) (65 - k)) W :=
  sliceAt_tail 55 65 b k (by kernel_rfl) (by kernel_rfl) (by kernel_rfl) hk W

/-- 'string(a[k:])' of such an array. -/
theorem conv_tail (w : World) (T : TypeId) {N : Nat} {arr : Array Value} {k : Nat} {l : List UInt8} (h : tailIs N arr k l) (c : Nat) :
    (convert 26 9 (.slice (some ⟨w.heap.size, k, none⟩) (N - k) c)).run Tryd.prog (w.alloc (.cells arr T)) = .ok (.string ⟨l.toArray⟩) (w.alloc (.cells arr T)) := by
  have hl := tailIs_len h
  rw [← hl]
  refine run_convert_bytes_back (P := Tryd.prog) _ 26 9 5 ⟨w.heap.size, k, none⟩ c l Tryd.underlying26 Tryd.underlying5 Tryd.underlying9 ?_
  intro j hj
  rw [add_plain, Lib.cell_of_heap (heap_alloc_new w _)]
  exact tailIs_cell h j hj

theorem and15 (v : Nat) (hv : v < 18446744073709551616) : bits .and .u64 (v : Int) 15 = ((v % 16 : Nat) : Int) := by
  have h := u64_and_nat v 15 hv (by decide)
  rw [nat_mask4] at h
  exact h

theorem bound_step {v k : Nat} (h : v < 16 ^ (k - 57)) (h16 : 16 ≤ v) : ∃ k', k = k' + 1 ∧ 58 ≤ k' ∧ v / 16 < 16 ^ (k' - 57) := by
  have h2 : 2 ≤ k - 57 := by
    rcases Nat.lt_or_ge (k - 57) 2 with hlt | hge
    · have : 16 ^ (k - 57) ≤ 16 ^ 1 := Nat.pow_le_pow_right (by decide) (by omega)
      omega
    · exact hge
  refine ⟨k - 1, by omega, by omega, ?_⟩
  have e : k - 57 = (k - 1 - 57) + 1 := by omega
  rw [e, Nat.pow_succ] at h
  omega

set_option maxHeartbeats 1000000 in
set_option maxRecDepth 100000 in
theorem formatBits_pos (u : Nat) (w : World) (hu : u < 4294967296) (ht : w.cell? ⟨2, 15, none⟩ = some (.int .u8 4)) (h2 : 2 < w.heap.size) :
    Calls Tryd.prog 21 #[.slice none 0 0, .int .u64 u, .int .i64 16, .bool false, .bool false] w fun e w' => e = .returned (.tuple #[.slice none 0 0, .string ⟨(Plain.hexs u).toArray⟩]) ∧ Below w.heap.size w w' := by
  have hz := zero55
  go_enter Tryd.func21, Tryd.ntmps21
  go_wp2_with fail
  refine (pow2_16 _).mono ?_
  rintro e w' ⟨rfl, hw'⟩; subst w'
  go_wp2_with fail
  refine (tz_16 _ ?_).mono ?_
  · rw [World.cell?_alloc_lt _ _ _ (by exact h2)]; exact ht
  rintro e w' ⟨rfl, hw'⟩; subst w'
  go_wp2_with fail
  clear ht hz
  go_loopw [1, 13] (fun uu ii wr => ∃ (v k : Nat) (arr : Array Value) (tail : List UInt8), uu = .int .u64 v ∧ ii = .int .i64 k ∧ wr = w.alloc (.cells arr 55) ∧ v < 4294967296 ∧ 58 ≤ k ∧ k ≤ 65 ∧ Hid (tailIs 65 arr k tail) ∧ Hid (Plain.hexs u = Plain.hexs v ++ tail) ∧ Hid (v < 16 ^ (k - 57)))
    (fun uu _ _ => (intOf uu).toNat)
  case atStart => exact ⟨u, 65, zer65, [], rfl, rfl, rfl, hu, by omega, by omega, tailIs_start, by simp [Hid], by simpa [Hid] using hu⟩
  case round =>
  obtain ⟨v, k, arr, tail, rfl, rfl, rfl, hv, hk0, hk1, htl, hhx, hbd⟩ := hrel
  by_cases h16 : 16 ≤ v
  · obtain ⟨k, rfl, hk', hbd'⟩ := bound_step hbd.out h16
    have hsz : arr.size = 65 := htl.out.1
    obtain ⟨d, hd⟩ : ∃ d, d = v % 16 := ⟨_, rfl⟩
    have hand : bits .and .u64 (v : Int) 15 = (d : Int) := by rw [hd]; exact and15 v (by omega)
    have hdig := digit_at d (by omega)
    obtain ⟨old, hold⟩ : ∃ old, arr[k]? = some old := ⟨arr[k], Array.getElem?_eq_getElem (by omega)⟩
    have R1 : Hid (tailIs 65 (arr.setIfInBounds k (.int .u8 ((Plain.dg d).toNat : Int))) k (Plain.dg d :: tail)) := tailIs_step htl.out _
    have R2 : Hid (Plain.hexs u = Plain.hexs (v / 16) ++ (Plain.dg d :: tail)) := by show Plain.hexs u = _; rw [hhx.out, Plain.hexs_step h16 (by omega), hd]; simp
    have R3 : Hid (v / 16 < 16 ^ (k - 57)) := hbd'
    clear hd hbd' hbd htl hhx
    generalize Plain.dg d = g at *
    go_wp2
    exact ⟨⟨v / 16, k, _, _, by go_num, rfl, rfl, by omega, by omega, by omega, R1, R2, R3⟩, by simp [intOf]; omega⟩
  obtain ⟨k, rfl⟩ : ∃ k', k = k' + 1 := ⟨k - 1, by omega⟩
  have hsz : arr.size = 65 := htl.out.1
  have hdig := digit_at v (by omega)
  obtain ⟨old, hold⟩ : ∃ old, arr[k]? = some old := ⟨arr[k], Array.getElem?_eq_getElem (by omega)⟩
  have R1 : tailIs 65 (arr.setIfInBounds k (.int .u8 ((Plain.dg v).toNat : Int))) k (Plain.dg v :: tail) := tailIs_step htl.out _
  have R2 : Plain.hexs u = Plain.dg v :: tail := by rw [hhx.out, Plain.hexs_lt (by omega)]; rfl
  rw [← R2] at R1
  have hconv := conv_tail w 55 R1
  have hsl := slice55 w.heap.size k (by omega)
  clear R1 R2 hbd htl hhx
  generalize Plain.dg v = g at *
  go_wp2
  go_ret2
  exact ⟨rfl, (Below.refl _ _).alloc (Nat.le_refl _) _⟩

set_option maxHeartbeats 1000000 in
set_option maxRecDepth 100000 in
theorem formatBits_neg (x : Int) (u : Nat) (w : World) (hx : IntKind.u64.wrap (-x) = (u : Int)) (hu : u < 4294967296) (ht : w.cell? ⟨2, 15, none⟩ = some (.int .u8 4)) (h2 : 2 < w.heap.size) :
    Calls Tryd.prog 21 #[.slice none 0 0, .int .u64 x, .int .i64 16, .bool true, .bool false] w fun e w' => e = .returned (.tuple #[.slice none 0 0, .string ⟨(45 :: Plain.hexs u).toArray⟩]) ∧ Below w.heap.size w w' := by
  have hz := zero55
  go_enter Tryd.func21, Tryd.ntmps21
  go_wp2_with fail
  refine (pow2_16 _).mono ?_
  rintro e w' ⟨rfl, hw'⟩; subst w'
  go_wp2_with fail
  refine (tz_16 _ ?_).mono ?_
  · rw [World.cell?_alloc_lt _ _ _ (by exact h2)]; exact ht
  rintro e w' ⟨rfl, hw'⟩; subst w'
  go_wp2_with fail
  clear ht hz hx
  go_loopw [1, 13] (fun uu ii wr => ∃ (v k : Nat) (arr : Array Value) (tail : List UInt8), uu = .int .u64 v ∧ ii = .int .i64 k ∧ wr = w.alloc (.cells arr 55) ∧ v < 4294967296 ∧ 58 ≤ k ∧ k ≤ 65 ∧ Hid (tailIs 65 arr k tail) ∧ Hid (Plain.hexs u = Plain.hexs v ++ tail) ∧ Hid (v < 16 ^ (k - 57)))
    (fun uu _ _ => (intOf uu).toNat)
  case atStart => exact ⟨u, 65, zer65, [], rfl, rfl, rfl, hu, by omega, by omega, tailIs_start, by simp [Hid], by simpa [Hid] using hu⟩
  case round =>
  obtain ⟨v, k, arr, tail, rfl, rfl, rfl, hv, hk0, hk1, htl, hhx, hbd⟩ := hrel
  by_cases h16 : 16 ≤ v
  · obtain ⟨k, rfl, hk', hbd'⟩ := bound_step hbd.out h16
    have hsz : arr.size = 65 := htl.out.1
    obtain ⟨d, hd⟩ : ∃ d, d = v % 16 := ⟨_, rfl⟩
    have hand : bits .and .u64 (v : Int) 15 = (d : Int) := by rw [hd]; exact and15 v (by omega)
    have hdig := digit_at d (by omega)
    obtain ⟨old, hold⟩ : ∃ old, arr[k]? = some old := ⟨arr[k], Array.getElem?_eq_getElem (by omega)⟩
    have R1 : Hid (tailIs 65 (arr.setIfInBounds k (.int .u8 ((Plain.dg d).toNat : Int))) k (Plain.dg d :: tail)) := tailIs_step htl.out _
    have R2 : Hid (Plain.hexs u = Plain.hexs (v / 16) ++ (Plain.dg d :: tail)) := by show Plain.hexs u = _; rw [hhx.out, Plain.hexs_step h16 (by omega), hd]; simp
    have R3 : Hid (v / 16 < 16 ^ (k - 57)) := hbd'
    clear hd hbd' hbd htl hhx
    generalize Plain.dg d = g at *
    go_wp2
    exact ⟨⟨v / 16, k, _, _, by go_num, rfl, rfl, by omega, by omega, by omega, R1, R2, R3⟩, by simp [intOf]; omega⟩
  obtain ⟨k, rfl⟩ : ∃ k', k = k' + 1 + 1 := ⟨k - 2, by omega⟩
  have hsz : arr.size = 65 := htl.out.1
  have hdig := digit_at v (by omega)
  obtain ⟨old, hold⟩ : ∃ old, arr[k + 1]? = some old := ⟨arr[k + 1], Array.getElem?_eq_getElem (by omega)⟩
  have R1 : tailIs 65 (arr.setIfInBounds (k + 1) (.int .u8 ((Plain.dg v).toNat : Int))) (k + 1) (Plain.dg v :: tail) := tailIs_step htl.out _
  have R2 : Plain.hexs u = Plain.dg v :: tail := by rw [hhx.out, Plain.hexs_lt (by omega)]; rfl
  rw [← R2] at R1
  have R3 : tailIs 65 ((arr.setIfInBounds (k + 1) (.int .u8 ((Plain.dg v).toNat : Int))).setIfInBounds k (.int .u8 45)) k (45 :: Plain.hexs u) := tailIs_step R1 45
  have hconv := conv_tail w 55 R3
  have hsl := slice55 w.heap.size k (by omega)
  obtain ⟨old2, hold2⟩ : ∃ old, (arr.setIfInBounds (k + 1) (.int .u8 ((Plain.dg v).toNat : Int)))[k]? = some old := ⟨_, Array.getElem?_eq_getElem (by simp; omega)⟩
  clear R1 R2 R3 hbd htl hhx
  generalize Plain.dg v = g at *
  go_wp2
  go_ret2
  exact ⟨rfl, (Below.refl _ _).alloc (Nat.le_refl _) _⟩

theorem u64_of_neg (r : Int) (h0 : -2147483648 ≤ r) (h1 : r < 0) : IntKind.u64.wrap (-(IntKind.u64.wrap r)) = ((r.natAbs : Nat) : Int) := by
  rw [IntKind.wrap_u64, IntKind.wrap_u64]
  omega

theorem shex_pos {r : Int} (h : 0 ≤ r) : Plain.shex r = Plain.hexs r.natAbs := by
  unfold Plain.shex Plain.sign; rw [if_neg (by omega)]; rfl
theorem shex_neg {r : Int} (h : r < 0) : Plain.shex r = 45 :: Plain.hexs r.natAbs := by
  unfold Plain.shex Plain.sign; rw [if_pos h]; rfl

set_option maxHeartbeats 1000000 in
/-- internal/strconv.FormatInt(r, 16), r an int32. -/
theorem formatInt16 (r : Int) (w : World) (h0 : -2147483648 ≤ r) (h1 : r ≤ 2147483647) (ht : w.cell? ⟨2, 15, none⟩ = some (.int .u8 4)) (h2 : 2 < w.heap.size) :
    Calls Tryd.prog 16 #[.int .i64 r, .int .i64 16] w fun e w' => e = .returned (.string ⟨(Plain.shex r).toArray⟩) ∧ Below w.heap.size w w' := by
  by_cases hr : r < 0
  · have HC : Hid (Calls Tryd.prog 21 _ _ _) := formatBits_neg (IntKind.u64.wrap r) r.natAbs w (u64_of_neg r h0 hr) (by omega) ht h2
    rw [shex_neg hr]
    generalize (45 :: Plain.hexs r.natAbs).toArray = q at *
    clear ht
    go_enter Tryd.func16, Tryd.ntmps16
    go_wp2_with fail
    refine HC.out.mono ?_
    rintro e w1 ⟨rfl, hb⟩
    go_wp2_with fail
    go_ret
    exact ⟨rfl, hb⟩
  · obtain ⟨m, rfl⟩ := Int.eq_ofNat_of_zero_le (by omega : 0 ≤ r)
    have HC : Hid (Calls Tryd.prog 21 _ _ _) := formatBits_pos m w (by omega) ht h2
    rw [shex_pos (by omega), Int.natAbs_natCast]
    generalize (Plain.hexs m).toArray = q at *
    clear ht
    go_enter Tryd.func16, Tryd.ntmps16
    go_wp2_with fail
    refine HC.out.mono ?_
    rintro e w1 ⟨rfl, hb⟩
    go_wp2_with fail
    go_ret
    exact ⟨rfl, hb⟩

/-- strconv.FormatInt(r, 16), r an int32. -/
theorem strconvFormatInt16 (r : Int) (w : World) (h0 : -2147483648 ≤ r) (h1 : r ≤ 2147483647) (ht : w.cell? ⟨2, 15, none⟩ = some (.int .u8 4)) (h2 : 2 < w.heap.size) :
    Calls Tryd.prog 13 #[.int .i64 r, .int .i64 16] w fun e w' => e = .returned (.string ⟨(Plain.shex r).toArray⟩) ∧ Below w.heap.size w w' := by
  have HC : Hid (Calls Tryd.prog 16 _ _ _) := formatInt16 r w h0 h1 ht h2
  generalize (Plain.shex r).toArray = q at *
  clear ht
  go_enter Tryd.func13, Tryd.ntmps13
  go_wp2_with fail
  refine HC.out.mono ?_
  rintro e w1 ⟨rfl, hb⟩
  go_wp2_with fail
  go_ret
  exact ⟨rfl, hb⟩

end Go.Proofs.Qxb6618447aDoor.Glob
