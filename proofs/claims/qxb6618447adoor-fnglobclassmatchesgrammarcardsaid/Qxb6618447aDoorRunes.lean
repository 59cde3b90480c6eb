/-
  runesClass: the members of a class, written.
-/
import Derived.Test.Qxb6618447aDoorBuild
import Derived.Test.Qxb6618447aDoorFmt
namespace Go.Proofs.Qxb6618447aDoor.Glob
open Go Go.RowKit

/-- A slice of runes that is read: its index, wherever it is asked inside its length, and the cells that it leads to. -/
structure Sl (w : World) (a : Option Addr) (n c b off : Nat) (p : Nat → Int) : Prop where
  ix : ∀ (k : Nat) (w' : World), k < n → (Instr.indexAt 22 (.slice a n c) (.int .i64 (k : Int))).run Tryd.prog w' = .ok (.pointer (some ⟨b, off + k, none⟩)) w'
  cell : ∀ k, k < n → w.cell? ⟨b, off + k, none⟩ = some (.int .i32 (p k))
  lo : ∀ k, -2147483648 ≤ p k
  hi : ∀ k, p k ≤ 2147483647

theorem Sl.later {w wr : World} {a : Option Addr} {n c b off : Nat} {p : Nat → Int} (h : Sl w a n c b off p) (hb : Below w.heap.size w wr) : Sl wr a n c b off p :=
  ⟨h.ix, fun k hk => (hb.cell (World.block_lt_of_cell? w ⟨b, off + k, none⟩ (h.cell k hk))).trans (h.cell k hk), h.lo, h.hi⟩

/-- The library's table of trailing zeros, where it is read. -/
def Tab (w : World) : Prop := w.cell? ⟨2, 15, none⟩ = some (.int .u8 4) ∧ 2 < w.heap.size
theorem Tab.later {w wr : World} {B : Nat} (h : Tab w) (hB : 2 < B) (hb : Below B w wr) : Tab wr :=
  ⟨(hb.cell (p := ⟨2, 15, none⟩) hB).trans h.1, Nat.lt_of_lt_of_le h.2 hb.size⟩

theorem grown_of_below {w w' : World} (h : Below w.heap.size w w') : w.grownBy w' none := ⟨h.os, h.tape, h.output, h.size, fun k hk _ => h.block k hk⟩

theorem builder_later {B b : Nat} {bs : List Value} {w w' : World} (h : Lib.IsBuilder 35 5 B b bs w) (hb : Below w.heap.size w w') : Lib.IsBuilder 35 5 B b bs w' := by
  have key : ∀ p, Lib.BuilderAt 35 5 B b p bs w → Lib.BuilderAt 35 5 B b p bs w' := by
    intro p hp
    have hlt := hp.lt
    obtain ⟨hB, v, hbk, hown, hne⟩ := hp
    refine ⟨hB, v, ?_, hown.kept (grown_of_below hb) ?_, hne⟩
    · rw [hb.block b hlt]; exact hbk
    · cases hv : v.ownBlock with
      | none => exact .inl rfl
      | some g => exact .inr (by simp)
  exact h.elim (fun x => .inl (key _ x)) (fun x => .inr (key _ x))

/-- The first k of p. -/
def upto (p : Nat → Int) : Nat → List Int
  | 0 => []
  | k + 1 => upto p k ++ [p k]
theorem upto_len (p : Nat → Int) : ∀ k, (upto p k).length = k
  | 0 => rfl
  | k + 1 => by rw [upto, List.length_append, upto_len p k]; rfl

theorem cells_append (a b : List UInt8) : Lib.byteCells (a ++ b) = Lib.byteCells a ++ Lib.byteCells b := by simp [Lib.byteCells]
theorem strCells_of (l : List UInt8) : Lib.strCells ⟨l.toArray⟩ = Lib.byteCells l := by simp [Lib.strCells, Lib.byteCells]

set_option maxHeartbeats 1000000 in
theorem runes_any (a : Option Addr) (n c b off : Nat) (p : Nat → Int) (w : World) (hs : Sl w a n c b off p) (hn : n ≤ 65536) (ht : Tab w) :
    Calls Tryd.prog 11 #[.slice a n c] w fun e w' => e = .returned (.string ⟨(Plain.points (upto p n)).toArray⟩) ∧ Below w.heap.size w w' := by
  have hix := hs.ix
  go_enter Tryd.func11, Tryd.ntmps11
  go_wp2_with fail
  go_loopw [8] (fun ii wr => ∃ k : Nat, k ≤ n ∧ ii = .int .i64 k ∧ Hid (Lib.IsBuilder 35 5 w.heap.size w.heap.size (Lib.byteCells (Plain.points (upto p k))) wr) ∧ Hid (Below w.heap.size w wr)) (fun ii _ => n - (intOf ii).toNat)
  case atStart => exact ⟨0, Nat.zero_le _, rfl, Lib.fresh_isBuilder 35 5 w, (Below.refl _ _).alloc (Nat.le_refl _) _⟩
  case round =>
  obtain ⟨k, hk, rfl, hB, hN⟩ := hrel
  have hlen : (Plain.points (upto p k)).length ≤ 21 * k := by have := Plain.points_len (upto p k); rw [upto_len] at this; exact this
  by_cases hlt : k < n
  · have hcx := (hs.later hN.out).cell k hlt
    have hlo := hs.lo k
    have hhi := hs.hi k
    go_wp2_with fail
    refine (writeString _ _ _ _ _ hB.out ?_ hN.out.size).mono ?_
    · rw [Lib.byteCells_length]
      show (Plain.points (upto p k)).length + 3 ≤ _
      omega
    rintro e w1 ⟨rfl, h1, hb1⟩
    have ht1 : Tab w1 := ht.later ht.2 (hN.out.trans hb1)
    have g1 : Hid (Lib.IsBuilder 35 5 w.heap.size w.heap.size (Lib.byteCells (Plain.points (upto p k) ++ [92, 120, 123])) w1) := .inr (by rw [cells_append]; exact h1)
    have s1 : w.heap.size ≤ w1.heap.size := Nat.le_trans hN.out.size hb1.size
    have hp1 := Plain.shex_len (p k)
    clear h1
    go_wp2_with fail
    refine (strconvFormatInt16 _ _ hlo hhi ht1.1 ht1.2).mono ?_
    rintro e w2 ⟨rfl, hb2⟩
    have g2 : Hid (Lib.IsBuilder 35 5 w.heap.size w.heap.size (Lib.byteCells (Plain.points (upto p k) ++ [92, 120, 123])) w2) := builder_later g1.out hb2
    go_wp2_with fail
    refine (writeString _ _ _ _ _ g2.out ?_ ?_).mono ?_
    · rw [Lib.byteCells_length]
      show _ + (Plain.shex (p k)).toArray.size ≤ _
      simp
      omega
    · exact Nat.le_trans s1 hb2.size
    rintro e w3 ⟨rfl, h3, hb3⟩
    have g3 : Hid (Lib.IsBuilder 35 5 w.heap.size w.heap.size (Lib.byteCells (Plain.points (upto p k) ++ [92, 120, 123] ++ Plain.shex (p k))) w3) := .inr (by rw [cells_append, ← strCells_of (Plain.shex (p k))]; exact h3)
    have s3 : w.heap.size ≤ w3.heap.size := Nat.le_trans s1 (Nat.le_trans hb2.size hb3.size)
    clear h3
    go_wp2_with fail
    refine (writeString _ _ _ _ _ g3.out ?_ s3).mono ?_
    · rw [Lib.byteCells_length]
      show _ + 1 ≤ _
      simp
      omega
    rintro e w4 ⟨rfl, h4, hb4⟩
    have g4 : Hid (Lib.IsBuilder 35 5 w.heap.size w.heap.size (Lib.byteCells (Plain.points (upto p (k + 1)))) w4) := .inr (by
      have e4 : Plain.points (upto p (k + 1)) = Plain.points (upto p k) ++ [92, 120, 123] ++ Plain.shex (p k) ++ [125] := by
        rw [upto, Plain.points_snoc, Plain.point]; simp
      rw [e4, cells_append]; exact h4)
    have gN : Hid (Below w.heap.size w w4) := (((hN.out.trans hb1).trans (hb2.mono s1)).trans hb3).trans hb4
    clear h4
    go_wp2_with fail
    go_roundw
    case rel => exact ⟨k + 1, by omega, by go_num, g4, gN⟩
    case measure => simp [intOf]; omega
  have hkn : k = n := by omega
  subst hkn
  go_wp2_with fail
  refine (builderString _ _ _ _ hB.out hN.out.size).mono ?_
  rintro e w1 ⟨rfl, hb1⟩
  go_wp2_with fail
  go_ret
  exact ⟨rfl, hN.out.trans hb1⟩

end Go.Proofs.Qxb6618447aDoor.Glob
