/-
  The Dialect in a block of the call's own; small laws on bounds. 
-/
import Derived.Test.Qxb6602123aDoorGuards
import Derived.Test.Qxb6602123aDoorWrite
namespace Go.Proofs.Qxb6602123aDoor
open Go.RowKit Go
/-- Block X holds the Dialect. -/
def Box (w : World) (X : Nat) (nm pm : ByteArray) (q mp : Int) (nb b1 b2 b3 b4 : Bool) (a : Option Addr) (n c : Nat) : Prop := w.heap[X]? = some (.cells #[.string nm, .int .u8 q, .string pm, .bool nb, .int .i64 mp, .bool b1, .bool b2, .bool b3, .bool b4, .slice a n c] 24 (0, 0))
theorem Box.new (w : World) (nm pm : ByteArray) (q mp : Int) (nb b1 b2 b3 b4 : Bool) (a : Option Addr) (n c : Nat) : Box (w.alloc (.cells #[.string nm, .int .u8 q, .string pm, .bool nb, .int .i64 mp, .bool b1, .bool b2, .bool b3, .bool b4, .slice a n c] 24)) w.heap.size nm pm q mp nb b1 b2 b3 b4 a n c := by
  show (w.heap.push _)[w.heap.size]? = _
  simp
theorem Box.lt {w : World} {X : Nat} {nm pm : ByteArray} {q mp : Int} {nb b1 b2 b3 b4 : Bool} {a : Option Addr} {n c : Nat} (h : Box w X nm pm q mp nb b1 b2 b3 b4 a n c) : X < w.heap.size := by
  rcases Nat.lt_or_ge X w.heap.size with h' | h'
  · exact h'
  · simp [Box, Array.getElem?_eq_none h'] at h
theorem Box.below {w w' : World} {B X : Nat} {nm pm : ByteArray} {q mp : Int} {nb b1 b2 b3 b4 : Bool} {a : Option Addr} {n c : Nat} (h : Box w X nm pm q mp nb b1 b2 b3 b4 a n c) (hX : X < B) (hb : Below B w w') : Box w' X nm pm q mp nb b1 b2 b3 b4 a n c := by
  unfold Box; rw [hb.block X hX]; exact h
theorem Box.cells {w : World} {X : Nat} {nm pm : ByteArray} {q mp : Int} {nb b1 b2 b3 b4 : Bool} {a : Option Addr} {n c : Nat} (h : Box w X nm pm q mp nb b1 b2 b3 b4 a n c) :
    w.cell? ⟨X, 0, none⟩ = some (.string nm) ∧ w.cell? ⟨X, 1, none⟩ = some (.int .u8 q) ∧ w.cell? ⟨X, 2, none⟩ = some (.string pm) ∧ w.cell? ⟨X, 3, none⟩ = some (.bool nb) ∧ w.cell? ⟨X, 4, none⟩ = some (.int .i64 mp) ∧
    w.cell? ⟨X, 5, none⟩ = some (.bool b1) ∧ w.cell? ⟨X, 6, none⟩ = some (.bool b2) ∧ w.cell? ⟨X, 7, none⟩ = some (.bool b3) ∧ w.cell? ⟨X, 8, none⟩ = some (.bool b4) ∧ w.cell? ⟨X, 9, none⟩ = some (.slice a n c) ∧ w.frozen? ⟨X, 9, none⟩ = false :=
  ⟨(Lib.cell_of_heap h 0).trans rfl, (Lib.cell_of_heap h 1).trans rfl, (Lib.cell_of_heap h 2).trans rfl, (Lib.cell_of_heap h 3).trans rfl, (Lib.cell_of_heap h 4).trans rfl, (Lib.cell_of_heap h 5).trans rfl, (Lib.cell_of_heap h 6).trans rfl, (Lib.cell_of_heap h 7).trans rfl, (Lib.cell_of_heap h 8).trans rfl, (Lib.cell_of_heap h 9).trans rfl, Lib.frozen_of_heap h 9⟩
theorem Box.set {w : World} {X : Nat} {nm pm : ByteArray} {q mp : Int} {nb b1 b2 b3 b4 : Bool} {a : Option Addr} {n c : Nat} (h : Box w X nm pm q mp nb b1 b2 b3 b4 a n c) (a' : Option Addr) (n' c' : Nat) : Box (w.setCell ⟨X, 9, none⟩ (.slice a' n' c')) X nm pm q mp nb b1 b2 b3 b4 a' n' c' := by
  unfold Box at *
  simp [World.setCell, Array.getElem?_modify, h]

theorem IsDia.wide {w : World} {B B' d : Nat} {pm : ByteArray} {nb : Bool} (h : IsDia w B d pm nb) (hB : B ≤ B') : IsDia w B' d pm nb := ⟨Nat.lt_of_lt_of_le h.1 hB, h.2⟩
theorem mulMono {R R' N : Nat} (h : R * N ≤ 65536) (hr : R' ≤ R) : R' * N ≤ 65536 := Nat.le_trans (Nat.mul_le_mul_right N hr) h
theorem outT_size {pm : ByteArray} {nb : Bool} {pre : ByteArray} {rows n : Int} (hpm : pm.size ≤ 1048576) (hl : pre.size ≤ 1048576) (hr : rows ≤ 65536) (h : rows.toNat * n.toNat ≤ 65536) : (ByteArray.mk (outT pm nb pre rows n).toArray).size ≤ 1099511627776 := by
  have h1 := rowsT_len (nb := nb) (n := n.toNat) hpm rows.toNat h
  have hps : pre.data.toList.length = pre.size := by show _ = pre.data.size; simp
  show (outT pm nb pre rows n).toArray.size ≤ _
  rw [List.size_toArray, outT, List.length_append, hps]
  omega
end Go.Proofs.Qxb6602123aDoor
