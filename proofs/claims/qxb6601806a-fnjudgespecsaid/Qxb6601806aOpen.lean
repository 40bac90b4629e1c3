/-
  From the reading of an argument to what the walks ask of memory.
-/
import Derived.Test.Qxb6601806aProg
import Derived.Test.Qxb6601806aEvBase
import Derived.ProofKit
import Derived.OpenShut
import Derived.Deep.Slices
import Derived.Deep.Strs
import Derived.Lib.SmallJoins
namespace Go.Proofs.Qxb6601806a
open Go.ChangeShapes Go.WideShapes Go.ChangeAt Go.RowKit

theorem Try.cells5 : Try.prog.cellsOf 5 = 1 := by kernel_rfl
theorem Try.cells30 : Try.prog.cellsOf 30 = 1 := by kernel_rfl
theorem Try.cells33 : Try.prog.cellsOf 33 = 1 := by kernel_rfl
theorem Try.cells37 : Try.prog.cellsOf 37 = 1 := by kernel_rfl
theorem Try.cells68 : Try.prog.cellsOf 68 = 1 := by kernel_rfl
theorem Try.cells70 : Try.prog.cellsOf 70 = 2 := by kernel_rfl
theorem Try.cells39 : Try.prog.cellsOf 39 = 4 := by kernel_rfl

theorem getD_range {α : Type} (f : Nat → α) (n i : Nat) (d : α) (h : i < n) : ((List.range n).map f).getD i d = f i := by
  simp [List.getD, h]

section
variable {H : Type} {enc : TypeId × Value → H} {W : World} {fuel : Nat} {x : DataW H × List MemPlace} {v : Value}

theorem bytes_of (h : DataW.trod enc Try.prog W 0 (fun _ => true) true fuel 33 [v] = some x) : ∃ bs, IsBytes W 0 v bs ∧ bs.length ≤ 9223372036854775807 := by
  rcases open_ints Try.underlying33 Try.underlying5 Try.cells5 h with ⟨hcs, _⟩ | ⟨a, l, c, zs, hcs, _, hl, hm, hz, _, hcell, hwz⟩
  · obtain rfl : v = .slice none 0 0 := by simpa using hcs
    exact ⟨[], ⟨none, 0, rfl, by simp, by simp, .inl rfl⟩, by simp⟩
  · obtain rfl : v = .slice (some a) l c := by simpa using hcs
    simp only [if_true] at hz
    have hlen : (zs.take l).length = l := by simp; omega
    have hget : ∀ i, i < l → (zs.take l).getD i 0 = zs.getD i 0 := fun i hi => by simp [List.getD, hi]
    unfold maxLen at hm
    refine ⟨zs.take l, ⟨some a, c, by rw [hlen], by omega, ?_, ?_⟩, by omega⟩
    · intro i hi
      rw [hlen] at hi
      rw [hget i hi]
      have : zs.getD i 0 ∈ zs := by
        have hi' : i < zs.length := by omega
        simp [List.getD, hi']
      have hw := hwz _ this
      have := bounds_u8 hw
      omega
    · rcases Nat.eq_zero_or_pos l with h0 | h0
      · exact .inl (by omega)
      · right
        obtain ⟨b, off, spot⟩ := a
        have hspot : spot = none := by simpa [Addr.add] using World.cell?_spot (hcell 0 (by omega))
        subst hspot
        refine ⟨b, off, rfl, Nat.zero_le _, fun i hi => ?_⟩
        rw [hlen] at hi
        rw [hget i hi, ← add_plain]
        exact hcell i (by omega)

theorem spot_none {a : Addr} {cs : List Value} {n : Nat} (hn : 0 < n) (h : W.cells? 0 a n = some cs) : a.spot = none := by
  obtain ⟨_, hl, hc⟩ := World.cells?_some h
  have h0 := hc 0 hn
  rw [List.getElem?_eq_getElem (by omega)] at h0
  simpa [Addr.add] using World.cell?_spot h0

theorem digs_of (h : DataW.trod enc Try.prog W 0 (fun _ => true) true fuel 37 [v] = some x) :
    ∃ ds, IsDigs W 0 v ds ∧ ds.length ≤ 9223372036854775807 ∧ ∀ j, j < ds.length → (ds.getD j dg0).val.length ≤ 9223372036854775807 := by
  rcases Go.Deep.open_slice Try.underlying37 h with ⟨hcs, _⟩ | ⟨a, l, c, m, n, D, Pl, hcs, _, hl, hm, hmm, _, hx⟩
  · obtain rfl : v = .slice none 0 0 := by simpa using hcs
    exact ⟨[], ⟨none, 0, rfl, by simp, fun _ => rfl, .inl rfl⟩, by simp, by simp⟩
  · obtain rfl : v = .slice (some a) l c := by simpa using hcs
    simp only [if_true] at hmm
    unfold maxLen at hm
    rw [Try.cells70] at hx
    have key : ∀ i, i < l → ∃ g : Dg, g.val.length ≤ 9223372036854775807 ∧ a.spot = none ∧ ∃ dv, W.cell? ⟨a.block, a.off + i * 2, none⟩ = some (.int .u16 g.alg) ∧ W.cell? ⟨a.block, a.off + i * 2 + 1, none⟩ = some dv ∧ IsBytes W 0 dv g.val := by
      intro i hi
      obtain ⟨cs, h1, h2⟩ := hx i (by omega)
      have hs : a.spot = none := by
        obtain ⟨cs0, h0, _⟩ := hx 0 (by omega)
        have := spot_none (by omega) h0
        simpa [Addr.add] using this
      obtain ⟨y0, y1, n', _, hlen, f0, f1⟩ := trod_struct2 Try.underlying70 h2
      obtain ⟨_, hl2, hc⟩ := World.cells?_some h1
      obtain ⟨c0, c1, rfl⟩ : ∃ c0 c1, cs = [c0, c1] := by
        match cs, hl2 with
        | [c0, c1], _ => exact ⟨c0, c1, rfl⟩
      simp only [Try.cells68, Try.cells33, List.drop_zero, List.take_succ_cons, List.take_zero, List.drop_succ_cons] at f0 f1
      obtain ⟨z, e0, _, _⟩ := DataW.trod_int Try.underlying68 f0
      obtain rfl : c0 = .int .u16 z := by simpa using e0
      obtain ⟨bs, hb1, hb2⟩ := bytes_of f1
      have ha : a = ⟨a.block, a.off, none⟩ := by rw [← hs]
      have g0 := hc 0 (by omega)
      have g1 := hc 1 (by omega)
      rw [Go.Deep.add_add, ha, add_plain] at g0 g1
      exact ⟨⟨z, bs⟩, hb2, hs, c1, by simpa using g0, by simpa [Nat.add_assoc] using g1, hb1⟩
    have : Inhabited Dg := ⟨dg0⟩
    obtain ⟨f, hf⟩ := Go.Deep.choose_lt key
    refine ⟨(List.range l).map f, ⟨some a, c, by simp, by simpa using hl, fun h => by simp at h, ?_⟩, by simp; omega, ?_⟩
    · rcases Nat.eq_zero_or_pos l with h0 | h0
      · exact .inl (by simp [h0])
      · have hs := (hf 0 h0).2.1
        have ha : a = ⟨a.block, a.off, none⟩ := by rw [← hs]
        refine .inr ⟨a.block, a.off, by rw [← ha], Nat.zero_le _, fun i hi => ?_⟩
        have hi' : i < l := by simpa using hi
        rw [getD_range _ _ _ _ hi']
        exact (hf i hi').2.2
    · intro j hj
      have hj' : j < l := by simpa using hj
      rw [getD_range _ _ _ _ hj']
      exact (hf j hj').1

theorem evs_of (h : DataW.trod enc Try.prog W 0 (fun _ => true) true fuel 22 [v] = some x) : ∃ es, IsEvs W 0 0 v es ∧ EvsFit es := by
  rcases Go.Deep.open_slice Try.underlying22 h with ⟨hcs, _⟩ | ⟨a, l, c, m, n, D, Pl, hcs, _, hl, hm, hmm, _, hx⟩
  · obtain rfl : v = .slice none 0 0 := by simpa using hcs
    exact ⟨[], ⟨none, 0, rfl, by simp, fun _ => rfl, .inl rfl⟩, by simp, by simp⟩
  · obtain rfl : v = .slice (some a) l c := by simpa using hcs
    simp only [if_true] at hmm
    unfold maxLen at hm
    rw [Try.cells39] at hx
    have key : ∀ i, i < l → ∃ g : Ev, (g.ds.length ≤ 9223372036854775807 ∧ g.data.length ≤ 9223372036854775807 ∧ ∀ j, j < g.ds.length → (g.ds.getD j dg0).val.length ≤ 9223372036854775807) ∧ a.spot = none ∧
        ∃ dv bv, W.cell? ⟨a.block, a.off + i * 4, none⟩ = some (.int .u32 g.pcr) ∧ W.cell? ⟨a.block, a.off + i * 4 + 1, none⟩ = some (.int .u32 g.ty) ∧ W.cell? ⟨a.block, a.off + i * 4 + 2, none⟩ = some dv ∧
          W.cell? ⟨a.block, a.off + i * 4 + 3, none⟩ = some bv ∧ IsDigs W 0 dv g.ds ∧ IsBytes W 0 bv g.data := by
      intro i hi
      obtain ⟨cs, h1, h2⟩ := hx i (by omega)
      have hs : a.spot = none := by
        obtain ⟨cs0, h0, _⟩ := hx 0 (by omega)
        have := spot_none (by omega) h0
        simpa [Addr.add] using this
      obtain ⟨y0, y1, y2, y3, n', _, hlen, f0, f1, f2, f3⟩ := Go.Joins.trod_struct4 Try.underlying39 h2
      obtain ⟨_, hl2, hc⟩ := World.cells?_some h1
      obtain ⟨c0, c1, c2, c3, rfl⟩ : ∃ c0 c1 c2 c3, cs = [c0, c1, c2, c3] := by
        match cs, hl2 with
        | [c0, c1, c2, c3], _ => exact ⟨c0, c1, c2, c3, rfl⟩
      simp only [Try.cells30, Try.cells33, Try.cells37, List.drop_zero, List.take_succ_cons, List.take_zero, List.drop_succ_cons] at f0 f1 f2 f3
      obtain ⟨z0, e0, _, _⟩ := DataW.trod_int Try.underlying30 f0
      obtain rfl : c0 = .int .u32 z0 := by simpa using e0
      obtain ⟨z1, e1, _, _⟩ := DataW.trod_int Try.underlying30 f1
      obtain rfl : c1 = .int .u32 z1 := by simpa using e1
      obtain ⟨ds, hd1, hd2, hd3⟩ := digs_of f2
      obtain ⟨bs, hb1, hb2⟩ := bytes_of f3
      have ha : a = ⟨a.block, a.off, none⟩ := by rw [← hs]
      have g0 := hc 0 (by omega)
      have g1 := hc 1 (by omega)
      have g2 := hc 2 (by omega)
      have g3 := hc 3 (by omega)
      rw [Go.Deep.add_add, ha, add_plain] at g0 g1 g2 g3
      exact ⟨⟨z0, z1, ds, bs⟩, ⟨hd2, hb2, hd3⟩, hs, c2, c3, by simpa using g0, by simpa [Nat.add_assoc] using g1, by simpa [Nat.add_assoc] using g2, by simpa [Nat.add_assoc] using g3, hd1, hb1⟩
    have : Inhabited Ev := ⟨ev0⟩
    obtain ⟨f, hf⟩ := Go.Deep.choose_lt key
    refine ⟨(List.range l).map f, ⟨some a, c, by simp, by simpa using hl, fun h => by simp at h, ?_⟩, by simp; omega, ?_⟩
    · rcases Nat.eq_zero_or_pos l with h0 | h0
      · exact .inl (by simp [h0])
      · have hs := (hf 0 h0).2.1
        have ha : a = ⟨a.block, a.off, none⟩ := by rw [← hs]
        refine .inr ⟨a.block, a.off, by rw [← ha], Nat.zero_le _, fun i hi => ?_⟩
        have hi' : i < l := by simpa using hi
        rw [getD_range _ _ _ _ hi']
        exact (hf i hi').2.2
    · intro j hj
      have hj' : j < l := by simpa using hj
      rw [getD_range _ _ _ _ hj']
      exact (hf j hj').1
end
end Go.Proofs.Qxb6601806a
