/-
  Lists of PCR values: bounds; what the walks ask of memory. No Go text in it.
-/
import Derived.Test.Qxb6601806aBase
namespace Go.Proofs.Qxb6601806a
open Go.RowKit
/-- No slice of ps is longer than 2^20. -/
def PVsSmall (ps : List PV) : Prop := ps.length ≤ 1048576 ∧ ∀ i, i < ps.length → (ps.getD i pv0).dig.length ≤ 1048576
/-- Every length fits an int. -/
def PVsFit (ps : List PV) : Prop := ps.length ≤ 9223372036854775807 ∧ ∀ i, i < ps.length → (ps.getD i pv0).dig.length ≤ 9223372036854775807
/-- What a walk asks of a list at the address a. -/
def PVCase (w : World) (a : Option Addr) (ps : List PV) : Prop := ps.length = 0 ∨ ∃ b off lo, a = some ⟨b, off, none⟩ ∧ PVRow w b off lo ps.length ps
theorem IsPVs.weak {w : World} {lo lo' : Nat} {a : Option Addr} {n c : Nat} {ps : List PV} (h : IsPVs w lo lo' (.slice a n c) ps) : n = ps.length ∧ ps.length ≤ c ∧ PVCase w a ps := by
  obtain ⟨a', c', hv, hc, hcase⟩ := h
  obtain ⟨rfl, rfl, rfl⟩ : a = a' ∧ n = ps.length ∧ c = c' := by simpa using hv
  refine ⟨rfl, hc, ?_⟩
  rcases hcase with h0 | ⟨b, off, h1, _, h2⟩
  · exact .inl h0
  · exact .inr ⟨b, off, lo', h1, h2⟩
theorem PVCase.below {w w' : World} {a : Option Addr} {ps : List PV} (h : PVCase w a ps) (hb : Below w.heap.size w w') : PVCase w' a ps := by
  rcases h with h | ⟨b, off, lo, h1, h2⟩
  · exact .inl h
  · exact .inr ⟨b, off, lo, h1, h2.below hb⟩
theorem below_cell' {w w' : World} (hb : Below w.heap.size w w') {b o : Nat} {v : Value} (hc : w.cell? ⟨b, o, none⟩ = some v) : w'.cell? ⟨b, o, none⟩ = some v := by
  rw [hb.cell (p := ⟨b, o, none⟩) (by exact lt_of_cell hc)]; exact hc
end Go.Proofs.Qxb6601806a
