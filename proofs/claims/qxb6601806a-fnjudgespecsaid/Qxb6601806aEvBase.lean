/-
  Events in memory: digests, events; what keeps them; what the copying loops do to them. No Go text in it.
-/
import Derived.Test.Qxb6601806aBase
namespace Go.Proofs.Qxb6601806a
open Go.RowKit

structure Dg where
  alg : Int
  val : List Int
def dg0 : Dg := ⟨0, []⟩
structure Ev where
  pcr : Int
  ty : Int
  ds : List Dg
  data : List Int
def ev0 : Ev := ⟨0, 0, [], []⟩

/-- The first k digests of ds lie, two cells each, in block b from 'off' on; their bytes in blocks from lo on. -/
def DgRow (w : World) (b off lo k : Nat) (ds : List Dg) : Prop :=
  ∀ i, i < k → ∃ dv, w.cell? ⟨b, off + i * 2, none⟩ = some (.int .u16 (ds.getD i dg0).alg) ∧ w.cell? ⟨b, off + i * 2 + 1, none⟩ = some dv ∧ IsBytes w lo dv (ds.getD i dg0).val
/-- v is a []Digest of w that holds ds, all of it in blocks from lo on. -/
def IsDigs (w : World) (lo : Nat) (v : Value) (ds : List Dg) : Prop :=
  ∃ (a : Option Addr) (c : Nat), v = .slice a ds.length c ∧ ds.length ≤ c ∧ (a = none → c = 0) ∧ (ds.length = 0 ∨ ∃ b off, a = some ⟨b, off, none⟩ ∧ lo ≤ b ∧ DgRow w b off lo ds.length ds)
/-- The first k events of es lie, four cells each, in block b from 'off' on; what they lead to in blocks from lo on. -/
def EvRow (w : World) (b off lo k : Nat) (es : List Ev) : Prop :=
  ∀ i, i < k → ∃ dv bv, w.cell? ⟨b, off + i * 4, none⟩ = some (.int .u32 (es.getD i ev0).pcr) ∧ w.cell? ⟨b, off + i * 4 + 1, none⟩ = some (.int .u32 (es.getD i ev0).ty) ∧
    w.cell? ⟨b, off + i * 4 + 2, none⟩ = some dv ∧ w.cell? ⟨b, off + i * 4 + 3, none⟩ = some bv ∧ IsDigs w lo dv (es.getD i ev0).ds ∧ IsBytes w lo bv (es.getD i ev0).data
def IsEvs (w : World) (lo lo' : Nat) (v : Value) (es : List Ev) : Prop :=
  ∃ (a : Option Addr) (c : Nat), v = .slice a es.length c ∧ es.length ≤ c ∧ (a = none → c = 0) ∧ (es.length = 0 ∨ ∃ b off, a = some ⟨b, off, none⟩ ∧ lo ≤ b ∧ EvRow w b off lo' es.length es)

theorem DgRow.kept {w w' : World} {b off lo k : Nat} {ds : List Dg} (h : DgRow w b off lo k ds) (hk : Kept lo w w') (hb : ∀ o v, w.cell? ⟨b, o, none⟩ = some v → w'.cell? ⟨b, o, none⟩ = some v) : DgRow w' b off lo k ds := by
  intro i hi
  obtain ⟨dv, h1, h2, h3⟩ := h i hi
  exact ⟨dv, hb _ _ h1, hb _ _ h2, h3.kept hk⟩
theorem DgRow.mono {w : World} {b off lo lo' k : Nat} {ds : List Dg} (h : DgRow w b off lo k ds) (hl : lo' ≤ lo) : DgRow w b off lo' k ds := by
  intro i hi
  obtain ⟨dv, h1, h2, h3⟩ := h i hi
  exact ⟨dv, h1, h2, h3.mono hl⟩
theorem below_cell {w w' : World} (hb : Below w.heap.size w w') {b o : Nat} {v : Value} (hc : w.cell? ⟨b, o, none⟩ = some v) : w'.cell? ⟨b, o, none⟩ = some v := by
  rw [hb.cell (p := ⟨b, o, none⟩) (by exact lt_of_cell hc)]; exact hc
theorem IsBytes.below {w w' : World} {lo : Nat} {v : Value} {bs : List Int} (h : IsBytes w lo v bs) (hb : Below w.heap.size w w') : IsBytes w' lo v bs := h.kept (Kept.of_below _ hb)
theorem DgRow.below {w w' : World} {b off lo k : Nat} {ds : List Dg} (h : DgRow w b off lo k ds) (hb : Below w.heap.size w w') : DgRow w' b off lo k ds :=
  h.kept (Kept.of_below _ hb) (fun _ _ hc => below_cell hb hc)
theorem IsDigs.kept {w w' : World} {lo : Nat} {v : Value} {ds : List Dg} (h : IsDigs w lo v ds) (hk : Kept lo w w') : IsDigs w' lo v ds := by
  obtain ⟨a, c, rfl, hc, hn, h | ⟨b, off, rfl, hb, hr⟩⟩ := h
  · exact ⟨a, c, rfl, hc, hn, .inl h⟩
  · exact ⟨_, c, rfl, hc, hn, .inr ⟨b, off, rfl, hb, hr.kept hk (fun _ _ hc => hk.cell hb hc)⟩⟩
theorem IsDigs.below {w w' : World} {lo : Nat} {v : Value} {ds : List Dg} (h : IsDigs w lo v ds) (hb : Below w.heap.size w w') : IsDigs w' lo v ds := h.kept (Kept.of_below _ hb)
theorem IsDigs.mono {w : World} {lo lo' : Nat} {v : Value} {ds : List Dg} (h : IsDigs w lo v ds) (hl : lo' ≤ lo) : IsDigs w lo' v ds := by
  obtain ⟨a, c, rfl, hc, hn, h | ⟨b, off, rfl, hb, hr⟩⟩ := h
  · exact ⟨a, c, rfl, hc, hn, .inl h⟩
  · exact ⟨_, c, rfl, hc, hn, .inr ⟨b, off, rfl, by omega, hr.mono hl⟩⟩
theorem EvRow.kept {w w' : World} {b off lo k : Nat} {es : List Ev} (h : EvRow w b off lo k es) (hk : Kept lo w w') (hb : ∀ o v, w.cell? ⟨b, o, none⟩ = some v → w'.cell? ⟨b, o, none⟩ = some v) : EvRow w' b off lo k es := by
  intro i hi
  obtain ⟨dv, bv, h1, h2, h3, h4, h5, h6⟩ := h i hi
  exact ⟨dv, bv, hb _ _ h1, hb _ _ h2, hb _ _ h3, hb _ _ h4, h5.kept hk, h6.kept hk⟩
theorem EvRow.below {w w' : World} {b off lo k : Nat} {es : List Ev} (h : EvRow w b off lo k es) (hb : Below w.heap.size w w') : EvRow w' b off lo k es :=
  h.kept (Kept.of_below _ hb) (fun _ _ hc => below_cell hb hc)
theorem IsEvs.below {w w' : World} {lo lo' : Nat} {v : Value} {es : List Ev} (h : IsEvs w lo lo' v es) (hb : Below w.heap.size w w') : IsEvs w' lo lo' v es := by
  obtain ⟨a, c, rfl, hc, hn, h | ⟨b, off, rfl, hlo, hrow⟩⟩ := h
  · exact ⟨a, c, rfl, hc, hn, .inl h⟩
  · exact ⟨_, c, rfl, hc, hn, .inr ⟨b, off, rfl, hlo, hrow.below hb⟩⟩

/-- What 'ds[j] = Digest{..}' does to the row that is being filled. -/
theorem dg_step {wr w1 : World} {B T N k : Nat} {ds : List Dg} {p : Dg} {v : Value} (hpv : DgRow wr B 0 (B + 1) k ds) (hown : Row wr B T N) (hb : Below wr.heap.size wr w1) (hN : k * 2 + 2 ≤ N) (hp : p = ds.getD k dg0)
    (hby : IsBytes w1 wr.heap.size v p.val) :
    Row ((w1.setCell ⟨B, k * 2, none⟩ (.int .u16 p.alg)).setCell ⟨B, k * 2 + 1, none⟩ v) B T N ∧
    DgRow ((w1.setCell ⟨B, k * 2, none⟩ (.int .u16 p.alg)).setCell ⟨B, k * 2 + 1, none⟩ v) B 0 (B + 1) (k + 1) ds := by
  have h1 : Row w1 B T N := hown.below hb
  have hlt := hown.lt
  obtain ⟨x0, c0⟩ := h1.cell (i := k * 2) (by omega)
  obtain ⟨x1, c1⟩ := h1.cell (i := k * 2 + 1) (by omega)
  refine ⟨(h1.set _ _).set _ _, ?_⟩
  have hk : Kept (B + 1) w1 ((w1.setCell ⟨B, k * 2, none⟩ (.int .u16 p.alg)).setCell ⟨B, k * 2 + 1, none⟩ v) :=
    ((Kept.refl _ _).setCell (by simp) _).setCell (by simp) _
  have h2 := hpv.below hb
  intro i hi
  by_cases e : i = k
  · subst e
    rw [← hp]
    refine ⟨v, ?_, ?_, (hby.mono (by omega)).kept hk⟩
    · rw [Nat.zero_add, cell_set_ne (by omega), cell_set_same c0]
    · rw [Nat.zero_add]
      exact cell_set_same (u := x1) (by rw [cell_set_ne (by omega)]; exact c1)
  · obtain ⟨dv, a0, a1, a3⟩ := h2 i (by omega)
    refine ⟨dv, ?_, ?_, a3.kept hk⟩
    · rw [cell_set_ne (by omega), cell_set_ne (by omega)]; exact a0
    · rw [cell_set_ne (by omega), cell_set_ne (by omega)]; exact a1

/-- What 'out[i] = Event{..}' does to the row that is being filled. -/
theorem ev_step {wr w1 : World} {B T N k : Nat} {es : List Ev} {p : Ev} {dv v : Value} (hpv : EvRow wr B 0 (B + 1) k es) (hown : Row wr B T N) (hb : Below wr.heap.size wr w1) (hN : k * 4 + 4 ≤ N) (hp : p = es.getD k ev0)
    (hds : IsDigs wr (B + 1) dv p.ds) (hby : IsBytes w1 wr.heap.size v p.data) :
    Row ((((w1.setCell ⟨B, k * 4, none⟩ (.int .u32 p.pcr)).setCell ⟨B, k * 4 + 1, none⟩ (.int .u32 p.ty)).setCell ⟨B, k * 4 + 2, none⟩ dv).setCell ⟨B, k * 4 + 3, none⟩ v) B T N ∧
    EvRow ((((w1.setCell ⟨B, k * 4, none⟩ (.int .u32 p.pcr)).setCell ⟨B, k * 4 + 1, none⟩ (.int .u32 p.ty)).setCell ⟨B, k * 4 + 2, none⟩ dv).setCell ⟨B, k * 4 + 3, none⟩ v) B 0 (B + 1) (k + 1) es := by
  have h1 : Row w1 B T N := hown.below hb
  have hlt := hown.lt
  obtain ⟨x0, c0⟩ := h1.cell (i := k * 4) (by omega)
  obtain ⟨x1, c1⟩ := h1.cell (i := k * 4 + 1) (by omega)
  obtain ⟨x2, c2⟩ := h1.cell (i := k * 4 + 2) (by omega)
  obtain ⟨x3, c3⟩ := h1.cell (i := k * 4 + 3) (by omega)
  refine ⟨(((h1.set _ _).set _ _).set _ _).set _ _, ?_⟩
  have hk : Kept (B + 1) w1 ((((w1.setCell ⟨B, k * 4, none⟩ (.int .u32 p.pcr)).setCell ⟨B, k * 4 + 1, none⟩ (.int .u32 p.ty)).setCell ⟨B, k * 4 + 2, none⟩ dv).setCell ⟨B, k * 4 + 3, none⟩ v) :=
    ((((Kept.refl _ _).setCell (by simp) _).setCell (by simp) _).setCell (by simp) _).setCell (by simp) _
  have h2 := hpv.below hb
  intro i hi
  by_cases e : i = k
  · subst e
    rw [← hp]
    refine ⟨dv, v, ?_, ?_, ?_, ?_, (hds.below hb).kept hk, (hby.mono (by omega)).kept hk⟩
    · rw [Nat.zero_add, cell_set_ne (by omega), cell_set_ne (by omega), cell_set_ne (by omega), cell_set_same c0]
    · rw [Nat.zero_add, cell_set_ne (by omega), cell_set_ne (by omega)]
      exact cell_set_same (u := x1) (by rw [cell_set_ne (by omega)]; exact c1)
    · rw [Nat.zero_add, cell_set_ne (by omega)]
      exact cell_set_same (u := x2) (by rw [cell_set_ne (by omega), cell_set_ne (by omega)]; exact c2)
    · rw [Nat.zero_add]
      exact cell_set_same (u := x3) (by rw [cell_set_ne (by omega), cell_set_ne (by omega), cell_set_ne (by omega)]; exact c3)
  · obtain ⟨dv', bv', a0, a1, a2, a3, a4, a5⟩ := h2 i (by omega)
    refine ⟨dv', bv', ?_, ?_, ?_, ?_, a4.kept hk, a5.kept hk⟩
    · rw [cell_set_ne (by omega), cell_set_ne (by omega), cell_set_ne (by omega), cell_set_ne (by omega)]; exact a0
    · rw [cell_set_ne (by omega), cell_set_ne (by omega), cell_set_ne (by omega), cell_set_ne (by omega)]; exact a1
    · rw [cell_set_ne (by omega), cell_set_ne (by omega), cell_set_ne (by omega), cell_set_ne (by omega)]; exact a2
    · rw [cell_set_ne (by omega), cell_set_ne (by omega), cell_set_ne (by omega), cell_set_ne (by omega)]; exact a3

/-- No slice of es is longer than 2^20. -/
def EvsSmall (es : List Ev) : Prop := es.length ≤ 1048576 ∧ ∀ i, i < es.length → (es.getD i ev0).ds.length ≤ 1048576 ∧ (es.getD i ev0).data.length ≤ 1048576 ∧ ∀ j, j < (es.getD i ev0).ds.length → ((es.getD i ev0).ds.getD j dg0).val.length ≤ 1048576
/-- Every length fits an int. -/
def EvsFit (es : List Ev) : Prop := es.length ≤ 9223372036854775807 ∧ ∀ i, i < es.length → (es.getD i ev0).ds.length ≤ 9223372036854775807 ∧ (es.getD i ev0).data.length ≤ 9223372036854775807 ∧ ∀ j, j < (es.getD i ev0).ds.length → ((es.getD i ev0).ds.getD j dg0).val.length ≤ 9223372036854775807
end Go.Proofs.Qxb6601806a
