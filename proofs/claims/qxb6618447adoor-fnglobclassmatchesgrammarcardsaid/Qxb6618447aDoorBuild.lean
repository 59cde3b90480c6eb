/-
  strings.Builder OVER THIS DUMP: copyCheck, WriteString (walked here, after the shelf's own walks: the shelf's layings of these two do not fit this dump), String (the shelf's contract, laid by its tool).
-/
import Derived.Test.Qxb6618447aDoorRows
import Derived.Shelf.Strings.Builder1
import Derived.Lib.Strings
import Derived.Lib.Slices
import Derived.Lib.Walk
import Derived.Lib.Builder
import Derived.Lib.AppendStr
import Derived.Lib.UnsafeStr
import Derived.Lib.MakeNoZero
import Derived.WalkKit
import Derived.Laws.Externs
import Derived.Laws.IdiomCopy
namespace Go.Proofs.Qxb6618447aDoor.Glob
open Go Go.RowKit Go.Shelf

theorem infoByte : (Tryd.prog.info? 5).map (fun i => (i.zero, i.size, i.bytes)) = some (some (.int .u8 0), 1, 1) := by kernel_rfl
theorem sizeBuilder : (Tryd.prog.info? 35).map (·.size) = some 2 := by kernel_rfl
theorem liesBuilder : liesAt Tryd.prog Tryd.prog.depth 35 (2 / Tryd.prog.cellsOf 35) 0 35 1 = true := by kernel_rfl

set_option maxHeartbeats 1000000 in
set_option maxRecDepth 100000 in
/-- copyCheck at a builder that has been used: nothing turns. -/
theorem copyCheck_used (b : Nat) (w : World) (h0 : w.cell? ⟨b, 0, none⟩ = some (.pointer (some ⟨b, 0, none⟩))) :
    Calls Tryd.prog 15 #[.pointer (some ⟨b, 0, none⟩)] w fun e w' => e = .returned (.tuple #[]) ∧ w' = w := by
  obtain ⟨j, hj, _⟩ := Option.map_eq_some_iff.1 sizeBuilder
  go_enter Tryd.func15, Tryd.ntmps15
  go_wp2
  rw [Lib.run_neq_ptr_same w _ Tryd.underlying33 hj]
  go_wp2
  go_end0
  exact ⟨rfl, rfl⟩

set_option maxHeartbeats 1000000 in
set_option maxRecDepth 100000 in
/-- copyCheck at a fresh builder: it stores its own address. -/
theorem copyCheck_fresh (b : Nat) (w : World) (h0 : w.cell? ⟨b, 0, none⟩ = some (.pointer none)) (hsh : w.shape? b = some (35, 2)) (hfz : w.frozen? ⟨b, 0, none⟩ = false) :
    Calls Tryd.prog 15 #[.pointer (some ⟨b, 0, none⟩)] w fun e w' => e = .returned (.tuple #[]) ∧ w' = w.setCell ⟨b, 0, none⟩ (.pointer (some ⟨b, 0, none⟩)) := by
  obtain ⟨j, hj, hjs⟩ := Option.map_eq_some_iff.1 sizeBuilder
  go_enter Tryd.func15, Tryd.ntmps15
  go_wp2
  rw [Lib.run_to_unsafe w ⟨b, 0, none⟩ Tryd.underlying33 Tryd.underlying43 hj (by rw [hjs]; decide) hsh (Nat.zero_lt_succ 1)]
  simp only [Result.andThen]
  rw [Oper.upon_value]
  go_wp2
  rw [run_callFunc_extern Tryd.func17 (by kernel_rfl) (by kernel_rfl) (by kernel_rfl) (e := Extern.AbiNoEscape.same) (by kernel_rfl)]
  rw [Lib.run_noEscape]
  simp only [Result.andThen]
  rw [Oper.upon_value]
  go_wp2
  rw [Lib.run_from_unsafe w ⟨b, 0, none⟩ Tryd.underlying43 Tryd.underlying33 hj hsh liesBuilder]
  simp only [Result.andThen]
  rw [Oper.upon_value]
  go_wp2
  go_end0
  exact ⟨rfl, rfl⟩

/-- copyCheck: behind it the builder is used. -/
theorem copyCheck (B b : Nat) (bs : List Value) (w : World) (h : Lib.IsBuilder 35 5 B b bs w) :
    Calls Tryd.prog 15 #[.pointer (some ⟨b, 0, none⟩)] w fun e w' => e = .returned (.tuple #[]) ∧ (Lib.BuilderAt 35 5 B b (.pointer (some ⟨b, 0, none⟩)) bs w' ∧ Below B w w') := by
  rcases h with h | h
  · refine (copyCheck_fresh b w h.cell0 h.shape h.frozen0).mono ?_
    rintro e w' ⟨rfl, rfl⟩
    exact ⟨rfl, h.used _, (Below.refl B w).setCell (p := ⟨b, 0, none⟩) h.1 _⟩
  · refine (copyCheck_used b w h.cell0).mono ?_
    rintro e w' ⟨rfl, rfl⟩
    exact ⟨rfl, h, Below.refl B _⟩

set_option maxHeartbeats 2000000 in
set_option maxRecDepth 100000 in
/-- WriteString. -/
theorem writeString (B b : Nat) (bs : List Value) (s : ByteArray) (w : World) (h : Lib.IsBuilder 35 5 B b bs w) (hlen : bs.length + s.size ≤ 140737488355328) (hBw : B ≤ w.heap.size) :
    Calls Tryd.prog 12 #[.pointer (some ⟨b, 0, none⟩), .string s] w fun e w' => e = .returned (.tuple #[.int .i64 s.size, .nilIface]) ∧ (Lib.BuilderAt 35 5 B b (.pointer (some ⟨b, 0, none⟩)) (bs ++ Lib.strCells s) w' ∧ Below B w w') := by
  obtain ⟨i0, hi, hz0, hz1, hz2⟩ := info_parts infoByte
  go_enter Tryd.func12, Tryd.ntmps12
  go_wp2_with fail
  refine (copyCheck B b bs _ h).mono ?_
  rintro e w1 ⟨rfl, h1, hb1⟩
  obtain ⟨hB, v, hbk, hown, hne⟩ := h1
  have c0 : w1.cell? ⟨b, 0, none⟩ = some (.pointer (some ⟨b, 0, none⟩)) := by rw [Lib.cell_of_heap hbk]; rfl
  have c1 : w1.cell? ⟨b, 1, none⟩ = some v := by rw [Lib.cell_of_heap hbk]; rfl
  go_wp2_with (at_builtin; refine Lib.wpList_append_own_string _ rfl _ _ 26 9 rfl B 5 i0 Tryd.underlying26 Tryd.underlying9 hi hz0 hz1 hz2 _ _ _ rfl hown s rfl ?c3 ?c4 ?c5 ?_)
  case c3 => unfold maxLen; omega
  case c4 => omega
  case c5 => have := hb1.size; omega
  intro v' w2 hown' hgrow _
  have hlt : b < w1.heap.size := by
    rcases Nat.lt_or_ge b w1.heap.size with h' | h'
    · exact h'
    · simp [Array.getElem?_eq_none h'] at hbk
  have hb2 : w2.heap[b]? = some (.cells #[.pointer (some ⟨b, 0, none⟩), v] 35 (0, 0)) := by
    rw [hgrow.block b hlt (fun e => hne e.symm)]
    exact hbk
  have d1 : w2.cell? ⟨b, 1, none⟩ = some v := by rw [Lib.cell_of_heap hb2]; rfl
  have f1 : w2.frozen? ⟨b, 1, none⟩ = false := Lib.frozen_of_heap hb2 1
  obtain ⟨ao, n', cap, rfl⟩ : ∃ ao n' cap, v' = .slice ao n' cap := by
    rcases hown'.2 with ⟨hv, _⟩ | ⟨g, cap, cur, hv, _⟩
    · exact ⟨_, _, _, hv⟩
    · exact ⟨_, _, _, hv⟩
  go_wp2
  go_ret2
  refine ⟨rfl, ?_, ?_⟩
  · exact Lib.BuilderAt.put (T := 35) (e := 5) hB hb2 (bs' := bs ++ Lib.strCells s) (by simpa [Lib.strCells_length] using hown') (by decide)
  · exact (hb1.grown hgrow (by have := hb1.size; omega) (fun k hk => (hown.lt k hk).1)).setCell (p := ⟨b, 1, none⟩) hB _

/- The shelf's contract for String, laid at this dump (the tool's own print, in this namespace). -/
def lays169_ren : Go.Shelf.Ren := ⟨fun | 169 => 14 | n => n, fun | 70 => 33 | 9 => 9 | 0 => 0 | 72 => 35 | 37 => 26 | 127 => 42 | 3 => 3 | 5 => 5 | n => n, fun | n => n⟩
theorem lays169 : Go.Proofs.Lays.n169 Tryd.prog lays169_ren := {
  mixed := by kernel_rfl
  f169 := Tryd.func14.trans (congrArg some (by kernel_rfl))
  t0 := Tryd.underlying0
  a0 := Tryd.isAgg0
  z0 := Tryd.sizeOf0
  v0 := Tryd.zeroValue0
  t3 := Tryd.underlying3
  a3 := Tryd.isAgg3
  z3 := Tryd.sizeOf3
  v3 := Tryd.zeroValue3
  t9 := Tryd.underlying9
  a9 := Tryd.isAgg9
  z9 := Tryd.sizeOf9
  v9 := Tryd.zeroValue9
  t37 := Tryd.underlying26
  a37 := Tryd.isAgg26
  z37 := Tryd.sizeOf26
  v37 := Tryd.zeroValue26
  t70 := Tryd.underlying33
  a70 := Tryd.isAgg33
  z70 := Tryd.sizeOf33
  v70 := Tryd.zeroValue33
  t72 := Tryd.underlying35
  a72 := Tryd.isAgg35
  z72 := Tryd.sizeOf35
  v72 := Tryd.zeroValue35
  t127 := Tryd.underlying42
  a127 := Tryd.isAgg42
  z127 := Tryd.sizeOf42
  v127 := Tryd.zeroValue42 }
theorem extra169 : Builder.Extra Tryd.prog lays169_ren := {
  sizeBuilder := by kernel_rfl
  liesBuilder := by kernel_rfl
  t5 := Tryd.underlying5
  a5 := Tryd.isAgg5
  z5 := Tryd.sizeOf5
  v5 := Tryd.zeroValue5
  infoByte := by kernel_rfl
  cellsByte := by kernel_rfl
  sizeByte := by kernel_rfl
  neB5 := by decide }
/-- String: the accumulated bytes. -/
theorem builderString (B b : Nat) (l : List UInt8) (w : World) (h : Lib.IsBuilder 35 5 B b (Lib.byteCells l) w) (hBw : B ≤ w.heap.size) :
    Calls Tryd.prog 14 #[.pointer (some ⟨b, 0, none⟩)] w fun e w' => e = .returned (.string ⟨l.toArray⟩) ∧ Below B w w' := Any.Builder_String_any lays169 extra169 B b l w h hBw

end Go.Proofs.Qxb6618447aDoor.Glob
