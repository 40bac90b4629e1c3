/-
  The words in which the walks of this seat speak of memory: a []string, a rowsmith dialect, a strings.Builder; and the plain text of the parameter lists.
-/
import Derived.Test.Qxb6602123aDoorShelf
import Derived.WalkKit
import Derived.WalkSpells
import Derived.Deep.OwnRows
import Derived.Lib.AppendIntMem
namespace Go.Proofs.Qxb6602123aDoor
open Go.RowKit Go

theorem lt_of_cell {w : World} {b o : Nat} {v : Value} (h : w.cell? ⟨b, o, none⟩ = some v) : b < w.heap.size := by
  by_cases hb : b < w.heap.size
  · exact hb
  · have : w.heap[b]? = none := by simp; omega
    simp [World.cell?, this] at h

/-- Behind the address a lie n strings. -/
def Strs (w : World) (a : Option Addr) (n : Nat) (S : Nat → ByteArray) : Prop :=
  n = 0 ∨ ∃ b off, a = some ⟨b, off, none⟩ ∧ ∀ i, i < n → w.cell? ⟨b, off + i, none⟩ = some (.string (S i)) ∧ (S i).size ≤ maxLen

theorem Strs.below {w w' : World} {a : Option Addr} {n : Nat} {S : Nat → ByteArray} (h : Strs w a n S) (hb : Below w.heap.size w w') : Strs w' a n S := by
  rcases h with h | ⟨b, off, rfl, hc⟩
  · exact .inl h
  · exact .inr ⟨b, off, rfl, fun i hi => ⟨by rw [hb.cell (p := ⟨b, off + i, none⟩) (by exact lt_of_cell (hc i hi).1)]; exact (hc i hi).1, (hc i hi).2⟩⟩

/-- The builder b (of blocks from B on) has been written to and holds l. -/
def BA (B b : Nat) (l : List UInt8) (w : World) : Prop := Lib.BuilderAt 56 5 B b (.pointer (some ⟨b, 0, none⟩)) (Lib.byteCells l) w

theorem BA.below {B b : Nat} {l : List UInt8} {w w' : World} (h : BA B b l w) (hb : Below w.heap.size w w') : BA B b l w' := by
  obtain ⟨hB, v, h1, h2, h3⟩ := h
  refine ⟨hB, v, ?_, h2.kept (row := none) ⟨hb.os, hb.tape, hb.output, hb.size, fun k hk _ => hb.block k hk⟩ ?_, h3⟩
  · rw [hb.block b (Lib.BuilderAt.lt ⟨hB, v, h1, h2, h3⟩)]; exact h1
  · cases hv : v.ownBlock with
    | none => exact .inl rfl
    | some x => exact .inr (by simp)

theorem byteCells_append (l m : List UInt8) : Lib.byteCells l ++ Lib.byteCells m = Lib.byteCells (l ++ m) := by simp [Lib.byteCells]
theorem strCells_eq (s : ByteArray) : Lib.strCells s = Lib.byteCells s.data.toList := rfl
theorem length_byteCells (l : List UInt8) : (Lib.byteCells l).length = l.length := by simp [Lib.byteCells]

/-- A write to a builder that has been written to. -/
theorem write_any (B b : Nat) (l : List UInt8) (s : ByteArray) (w : World) (h : BA B b l w) (hlen : l.length + s.size ≤ 140737488355328) (hBw : B ≤ w.heap.size) :
    Calls Tryd.prog 32 #[.pointer (some ⟨b, 0, none⟩), .string s] w fun e w' => e = .returned (.tuple #[.int .i64 s.size, .nilIface]) ∧ BA B b (l ++ s.data.toList) w' ∧ Below B w w' := by
  refine (Tryd.Builder_WriteString B b _ s w (.inr h) (by rw [length_byteCells]; exact hlen) hBw).mono ?_
  rintro e w' ⟨rfl, h1, h2⟩
  refine ⟨rfl, ?_, h2⟩
  rw [strCells_eq, byteCells_append] at h1
  exact h1

/-- Block d (below B) holds a dialect whose parameter mark is pm, numbered or not. -/
def IsDia (w : World) (B d : Nat) (pm : ByteArray) (nb : Bool) : Prop := d < B ∧ w.cell? ⟨d, 2, none⟩ = some (.string pm) ∧ w.cell? ⟨d, 3, none⟩ = some (.bool nb)
theorem IsDia.below {w w' : World} {B d : Nat} {pm : ByteArray} {nb : Bool} (h : IsDia w B d pm nb) (hb : Below B w w') : IsDia w' B d pm nb :=
  ⟨h.1, by rw [hb.cell (p := ⟨d, 2, none⟩) h.1]; exact h.2.1, by rw [hb.cell (p := ⟨d, 3, none⟩) h.1]; exact h.2.2⟩

abbrev Tab (w : World) (B : Nat) : Prop := Lib.TabBelow Tryd.prog B w "internal/strconv.uint64pow10" .u64 Lib.pow10Tab

/-- The text of one parameter. -/
def parT (pm : ByteArray) (nb : Bool) (k : Int) : List UInt8 := pm.data.toList ++ (if nb then Lib.itoa k else [])
/-- The text of the first i parameters of row r, of n. -/
def colsT (pm : ByteArray) (nb : Bool) (n r : Nat) : Nat → List UInt8
  | 0 => []
  | i + 1 => colsT pm nb n r i ++ ((if 0 < i then [44, 32] else []) ++ parT pm nb ((r * n + i + 1 : Nat) : Int))
/-- The text of the first r rows of n parameters. -/
def rowsT (pm : ByteArray) (nb : Bool) (n : Nat) : Nat → List UInt8
  | 0 => []
  | r + 1 => rowsT pm nb n r ++ ((if 0 < r then [44, 32] else []) ++ ([40] ++ colsT pm nb n r n ++ [41]))
end Go.Proofs.Qxb6602123aDoor
