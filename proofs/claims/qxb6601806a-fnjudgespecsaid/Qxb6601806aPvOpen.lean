/-
  From the reading of a list of PCR values to what the walks ask of memory.
-/
import Derived.Test.Qxb6601806aOpen
import Derived.Test.Qxb6601806aPvBase
namespace Go.Proofs.Qxb6601806a
open Go.ChangeShapes Go.WideShapes Go.ChangeAt Go.RowKit
theorem Try.cells76 : Try.prog.cellsOf 76 = 3 := by kernel_rfl
section
variable {H : Type} {enc : TypeId × Value → H} {W : World} {fuel : Nat} {x : DataW H × List MemPlace} {v : Value}
theorem pvs_of (h : DataW.trod enc Try.prog W 0 (fun _ => true) true fuel 41 [v] = some x) : ∃ ps, IsPVs W 0 0 v ps ∧ PVsFit ps := by
  rcases Go.Deep.open_slice Try.underlying41 h with ⟨hcs, _⟩ | ⟨a, l, c, m, n, D, Pl, hcs, _, hl, hm, hmm, _, hx⟩
  · obtain rfl : v = .slice none 0 0 := by simpa using hcs
    exact ⟨[], ⟨none, 0, rfl, by simp, .inl rfl⟩, by simp, by simp⟩
  · obtain rfl : v = .slice (some a) l c := by simpa using hcs
    simp only [if_true] at hmm
    unfold maxLen at hm
    rw [Try.cells76] at hx
    have key : ∀ i, i < l → ∃ g : PV, g.dig.length ≤ 9223372036854775807 ∧ a.spot = none ∧
        ∃ dv, W.cell? ⟨a.block, a.off + i * 3, none⟩ = some (.int .u16 g.bank) ∧ W.cell? ⟨a.block, a.off + i * 3 + 1, none⟩ = some (.int .u32 g.pcr) ∧ W.cell? ⟨a.block, a.off + i * 3 + 2, none⟩ = some dv ∧ IsBytes W 0 dv g.dig := by
      intro i hi
      obtain ⟨cs, h1, h2⟩ := hx i (by omega)
      have hs : a.spot = none := by
        obtain ⟨cs0, h0, _⟩ := hx 0 (by omega)
        have := spot_none (by omega) h0
        simpa [Addr.add] using this
      obtain ⟨y0, y1, y2, n', _, hlen, f0, f1, f2⟩ := Go.Deep.trod_struct3 Try.underlying76 h2
      obtain ⟨_, hl2, hc⟩ := World.cells?_some h1
      obtain ⟨c0, c1, c2, rfl⟩ : ∃ c0 c1 c2, cs = [c0, c1, c2] := by
        match cs, hl2 with
        | [c0, c1, c2], _ => exact ⟨c0, c1, c2, rfl⟩
      simp only [Try.cells30, Try.cells33, Try.cells68, List.drop_zero, List.take_succ_cons, List.take_zero, List.drop_succ_cons] at f0 f1 f2
      obtain ⟨z0, e0, _, _⟩ := DataW.trod_int Try.underlying68 f0
      obtain rfl : c0 = .int .u16 z0 := by simpa using e0
      obtain ⟨z1, e1, _, _⟩ := DataW.trod_int Try.underlying30 f1
      obtain rfl : c1 = .int .u32 z1 := by simpa using e1
      obtain ⟨bs, hb1, hb2⟩ := bytes_of f2
      have ha : a = ⟨a.block, a.off, none⟩ := by rw [← hs]
      have g0 := hc 0 (by omega)
      have g1 := hc 1 (by omega)
      have g2 := hc 2 (by omega)
      rw [Go.Deep.add_add, ha, add_plain] at g0 g1 g2
      exact ⟨⟨z0, z1, bs⟩, hb2, hs, c2, by simpa using g0, by simpa [Nat.add_assoc] using g1, by simpa [Nat.add_assoc] using g2, hb1⟩
    have : Inhabited PV := ⟨pv0⟩
    obtain ⟨f, hf⟩ := Go.Deep.choose_lt key
    refine ⟨(List.range l).map f, ⟨some a, c, by simp, by simpa using hl, ?_⟩, by simp; omega, ?_⟩
    · rcases Nat.eq_zero_or_pos l with h0 | h0
      · exact .inl (by simp [h0])
      · have hs := (hf 0 h0).2.1
        have ha : a = ⟨a.block, a.off, none⟩ := by rw [← hs]
        refine .inr ⟨a.block, a.off, by rw [← ha], Nat.zero_le _, fun i hi => ?_⟩
        have hi' : i < l := by simpa using hi
        rw [getD_range _ _ _ _ hi']
        exact (hf i hi').2.2
    · intro j hj
      have hj' : j < l := by simpa using hj
      rw [getD_range _ _ _ _ hj']
      exact (hf j hj').1
end
end Go.Proofs.Qxb6601806a
