/-
  The words in which the walks of this seat speak of memory: a []byte, and what keeps it. No Go text in it.
-/
import Derived.WalkKit
import Derived.WalkSpells
import Derived.Deep.OwnRows
namespace Go.Proofs.Qxb6601806a
open Go.RowKit

/-- From block 'lo' on, every block of w stands in w' as it stood. -/
def Kept (lo : Nat) (w w' : World) : Prop := w.heap.size ≤ w'.heap.size ∧ ∀ k, lo ≤ k → k < w.heap.size → w'.heap[k]? = w.heap[k]?

theorem Kept.refl (lo : Nat) (w : World) : Kept lo w w := ⟨Nat.le_refl _, fun _ _ _ => rfl⟩
theorem Kept.trans {lo : Nat} {a b c : World} (h : Kept lo a b) (k : Kept lo b c) : Kept lo a c :=
  ⟨Nat.le_trans h.1 k.1, fun i h1 h2 => (k.2 i h1 (Nat.lt_of_lt_of_le h2 h.1)).trans (h.2 i h1 h2)⟩
theorem Kept.of_below {w w' : World} (lo : Nat) (h : Below w.heap.size w w') : Kept lo w w' := ⟨h.size, fun k _ h2 => h.block k h2⟩
theorem Kept.mono {lo lo' : Nat} {w w' : World} (h : Kept lo w w') (hl : lo ≤ lo') : Kept lo' w w' := ⟨h.1, fun k h1 h2 => h.2 k (by omega) h2⟩

theorem lt_of_cell {w : World} {b o : Nat} {v : Value} (h : w.cell? ⟨b, o, none⟩ = some v) : b < w.heap.size := by
  by_cases hb : b < w.heap.size
  · exact hb
  · have : w.heap[b]? = none := by simp; omega
    simp [World.cell?, this] at h

theorem Kept.cell {lo : Nat} {w w' : World} (h : Kept lo w w') {b o : Nat} {v : Value} (hb : lo ≤ b) (hc : w.cell? ⟨b, o, none⟩ = some v) : w'.cell? ⟨b, o, none⟩ = some v := by
  rw [← hc]
  exact World.cell?_of_block (w := w) (h.2 b hb (lt_of_cell hc))

/-- v is a []byte of w that holds the numbers bs; its array lies in a block from 'lo' on (where it has a byte). -/
def IsBytes (w : World) (lo : Nat) (v : Value) (bs : List Int) : Prop :=
  ∃ (a : Option Addr) (c : Nat), v = .slice a bs.length c ∧ bs.length ≤ c ∧ (∀ i, i < bs.length → 0 ≤ bs.getD i 0 ∧ bs.getD i 0 < 256) ∧
    (bs.length = 0 ∨ ∃ b off, a = some ⟨b, off, none⟩ ∧ lo ≤ b ∧ ∀ i, i < bs.length → w.cell? ⟨b, off + i, none⟩ = some (.int .u8 (bs.getD i 0)))

theorem IsBytes.kept {w w' : World} {lo : Nat} {v : Value} {bs : List Int} (h : IsBytes w lo v bs) (k : Kept lo w w') : IsBytes w' lo v bs := by
  obtain ⟨a, c, rfl, hc, hw, h | ⟨b, off, rfl, hb, hcell⟩⟩ := h
  · exact ⟨a, c, rfl, hc, hw, .inl h⟩
  · exact ⟨_, c, rfl, hc, hw, .inr ⟨b, off, rfl, hb, fun i hi => k.cell hb (hcell i hi)⟩⟩
theorem IsBytes.mono {w : World} {lo lo' : Nat} {v : Value} {bs : List Int} (h : IsBytes w lo v bs) (hl : lo' ≤ lo) : IsBytes w lo' v bs := by
  obtain ⟨a, c, rfl, hc, hw, h | ⟨b, off, rfl, hb, hcell⟩⟩ := h
  · exact ⟨a, c, rfl, hc, hw, .inl h⟩
  · exact ⟨_, c, rfl, hc, hw, .inr ⟨b, off, rfl, by omega, hcell⟩⟩

/-- A new row of the call's own, filled as far as k. -/
theorem rowIs_isBytes {w : World} {b : Nat} {bs : List Int} {f : Nat → Value} {lo : Nat} (h : w.rowIs b 5 bs.length f) (hlo : lo ≤ b) (hf : ∀ i, i < bs.length → f i = .int .u8 (bs.getD i 0))
    (hw : ∀ i, i < bs.length → 0 ≤ bs.getD i 0 ∧ bs.getD i 0 < 256) : IsBytes w lo (.slice (some ⟨b, 0, none⟩) bs.length bs.length) bs :=
  ⟨_, _, rfl, Nat.le_refl _, hw, .inr ⟨b, 0, rfl, hlo, fun i hi => by rw [Nat.zero_add, h.cell hi, hf i hi]⟩⟩

/-- 'make([]T, n)', whatever T. -/
theorem run_make_wide {P : Program} (t e : TypeId) (z : Value) (size bytes : Nat) (ht : P.underlying t = some (.slice e)) (hinfo : (P.info? e).map (fun i => (i.zero, i.size, i.bytes)) = some (some z, size, bytes))
    (kl kc : IntKind) (n : Nat) (hbytes : bytes * n ≤ 281474976710656) (h63 : n ≤ 9223372036854775807) (w : World) :
    (Instr.makeSlice t (.int kl (n : Int)) (.int kc (n : Int))).run P w = .ok (.slice (some ⟨w.heap.size, 0, none⟩) n n) (w.alloc (.cells (madeCells z.cells (n * size)) e)) := by
  obtain ⟨i, hi, hzz⟩ := Option.map_eq_some_iff.1 hinfo
  simp only [Prod.mk.injEq] at hzz
  obtain ⟨hz, hs, hb⟩ := hzz
  have hb' : (i.bytes : Int) * (n : Int) ≤ 281474976710656 := by
    have h : ((i.bytes * n : Nat) : Int) ≤ 281474976710656 := by rw [hb]; omega
    rwa [Int.natCast_mul] at h
  have hr := run_make (P := P) w t e i z ht hi hz kl kc n n (by omega) (Int.le_refl _) hb' (by omega)
  simp only [Int.toNat_natCast, hs] at hr
  exact hr

/-- Block b is a row of N cells of type t, none frozen. -/
def Row (w : World) (b : Nat) (t : TypeId) (N : Nat) : Prop := ∃ f, w.rowIs b t N f
theorem Row.made (w : World) (zs : Array Value) (N : Nat) (t : TypeId) : Row (w.alloc (.cells (madeCells zs N) t)) w.heap.size t N := by
  have h := World.rowIs_alloc w (madeCells zs N) t (fun i => (madeCells zs N).getD i .nilFunc) (fun i hi => by simp [Array.getD, hi])
  rw [size_madeCells] at h
  exact ⟨_, h⟩
theorem Row.cell {w : World} {b t N : Nat} (h : Row w b t N) {i : Nat} (hi : i < N) : ∃ v, w.cell? ⟨b, i, none⟩ = some v := by
  obtain ⟨f, h⟩ := h; exact ⟨_, h.cell hi⟩
theorem Row.frozen {w : World} {b t N : Nat} (h : Row w b t N) (i : Nat) : w.frozen? ⟨b, i, none⟩ = false := by
  obtain ⟨f, h⟩ := h; exact h.frozen i
theorem Row.lt {w : World} {b t N : Nat} (h : Row w b t N) : b < w.heap.size := by
  obtain ⟨f, h⟩ := h; exact h.lt
theorem Row.set {w : World} {b t N : Nat} (h : Row w b t N) (i : Nat) (v : Value) : Row (w.setCell ⟨b, i, none⟩ v) b t N := by
  obtain ⟨f, h⟩ := h; exact ⟨_, h.set i v⟩
theorem Row.of_block {w w' : World} {b t N : Nat} (h : Row w b t N) (e : w'.heap[b]? = w.heap[b]?) : Row w' b t N := by
  obtain ⟨f, h⟩ := h; exact ⟨f, h.of_block e⟩
theorem Row.below {w w' : World} {b t N : Nat} (h : Row w b t N) (hb : Below w.heap.size w w') : Row w' b t N := h.of_block (hb.block b h.lt)

theorem Kept.setCell {lo : Nat} {a w : World} (h : Kept lo a w) {p : Addr} (hp : p.block < lo) (u : Value) : Kept lo a (w.setCell p u) :=
  h.trans ⟨by simp [World.setCell], fun k hk _ => Below.heap_setCell _ _ _ _ (by omega)⟩

structure PV where
  bank : Int
  pcr : Int
  dig : List Int
def pv0 : PV := ⟨0, 0, []⟩

/-- The first k values of ps lie, three cells each, in block b from 'off' on; their digests in blocks from lo on. -/
def PVRow (w : World) (b off lo k : Nat) (ps : List PV) : Prop :=
  ∀ i, i < k → ∃ dv, w.cell? ⟨b, off + i * 3, none⟩ = some (.int .u16 (ps.getD i pv0).bank) ∧ w.cell? ⟨b, off + i * 3 + 1, none⟩ = some (.int .u32 (ps.getD i pv0).pcr) ∧ w.cell? ⟨b, off + i * 3 + 2, none⟩ = some dv ∧
    IsBytes w lo dv (ps.getD i pv0).dig

/-- v is a []PCRValue of w that holds ps: its array in a block from lo on, its digests in blocks from lo' on. -/
def IsPVs (w : World) (lo lo' : Nat) (v : Value) (ps : List PV) : Prop :=
  ∃ (a : Option Addr) (c : Nat), v = .slice a ps.length c ∧ ps.length ≤ c ∧ (ps.length = 0 ∨ ∃ b off, a = some ⟨b, off, none⟩ ∧ lo ≤ b ∧ PVRow w b off lo' ps.length ps)

theorem PVRow.kept {w w' : World} {b off lo k : Nat} {ps : List PV} (h : PVRow w b off lo k ps) (hk : Kept lo w w') (hb : ∀ o v, w.cell? ⟨b, o, none⟩ = some v → w'.cell? ⟨b, o, none⟩ = some v) : PVRow w' b off lo k ps := by
  intro i hi
  obtain ⟨dv, h1, h2, h3, h4⟩ := h i hi
  exact ⟨dv, hb _ _ h1, hb _ _ h2, hb _ _ h3, h4.kept hk⟩
theorem PVRow.below {w w' : World} {b off lo k : Nat} {ps : List PV} (h : PVRow w b off lo k ps) (hb : Below w.heap.size w w') : PVRow w' b off lo k ps :=
  h.kept (Kept.of_below _ hb) (fun o v hc => by rw [hb.cell (p := ⟨b, o, none⟩) (by exact lt_of_cell hc)]; exact hc)
theorem IsPVs.below {w w' : World} {lo lo' : Nat} {v : Value} {ps : List PV} (h : IsPVs w lo lo' v ps) (hb : Below w.heap.size w w') : IsPVs w' lo lo' v ps := by
  obtain ⟨a, c, rfl, hc, h | ⟨b, off, rfl, hlo, hrow⟩⟩ := h
  · exact ⟨a, c, rfl, hc, .inl h⟩
  · exact ⟨_, c, rfl, hc, .inr ⟨b, off, rfl, hlo, hrow.below hb⟩⟩

theorem below_undrew {W w1 : World} (hb : Below W.drew.heap.size W.drew w1) : Below W.heap.size W w1 := ⟨hb.os, hb.tape, hb.output, hb.size, hb.block⟩
theorem bcell {W w1 : World} (hb : Below W.heap.size W w1) : (∀ b o, b < W.heap.size → w1.cell? ⟨b, o, none⟩ = W.cell? ⟨b, o, none⟩) ∧ (∀ b o, b < W.heap.size → w1.frozen? ⟨b, o, none⟩ = W.frozen? ⟨b, o, none⟩) :=
  ⟨fun b o h => hb.cell (p := ⟨b, o, none⟩) h, fun b o h => hb.frozen (p := ⟨b, o, none⟩) h⟩
theorem cell_set_ne {w : World} {B o o' : Nat} {v : Value} (h : o ≠ o') : (w.setCell ⟨B, o, none⟩ v).cell? ⟨B, o', none⟩ = w.cell? ⟨B, o', none⟩ :=
  World.cell?_setCell_other _ _ _ _ (fun e => h (congrArg Addr.off e))
theorem cell_set_same {w : World} {B o : Nat} {u v : Value} (h : w.cell? ⟨B, o, none⟩ = some u) : (w.setCell ⟨B, o, none⟩ v).cell? ⟨B, o, none⟩ = some v := World.cell?_setCell_same _ _ _ h

/-- What 'out[k] = PCRValue{..}' does to the row that is being filled. -/
theorem pv_step {wr w1 : World} {B T N k : Nat} {ps : List PV} {p : PV} {v : Value} (hpv : PVRow wr B 0 (B + 1) k ps) (hown : Row wr B T N) (hb : Below wr.heap.size wr w1) (hN : k * 3 + 3 ≤ N) (hp : p = ps.getD k pv0)
    (hby : IsBytes w1 wr.heap.size v p.dig) :
    Row (((w1.setCell ⟨B, k * 3, none⟩ (.int .u16 p.bank)).setCell ⟨B, k * 3 + 1, none⟩ (.int .u32 p.pcr)).setCell ⟨B, k * 3 + 2, none⟩ v) B T N ∧
    PVRow (((w1.setCell ⟨B, k * 3, none⟩ (.int .u16 p.bank)).setCell ⟨B, k * 3 + 1, none⟩ (.int .u32 p.pcr)).setCell ⟨B, k * 3 + 2, none⟩ v) B 0 (B + 1) (k + 1) ps := by
  have h1 : Row w1 B T N := hown.below hb
  have hlt := hown.lt
  obtain ⟨x0, c0⟩ := h1.cell (i := k * 3) (by omega)
  obtain ⟨x1, c1⟩ := h1.cell (i := k * 3 + 1) (by omega)
  obtain ⟨x2, c2⟩ := h1.cell (i := k * 3 + 2) (by omega)
  refine ⟨((h1.set _ _).set _ _).set _ _, ?_⟩
  have hk : Kept (B + 1) w1 (((w1.setCell ⟨B, k * 3, none⟩ (.int .u16 p.bank)).setCell ⟨B, k * 3 + 1, none⟩ (.int .u32 p.pcr)).setCell ⟨B, k * 3 + 2, none⟩ v) :=
    (((Kept.refl _ _).setCell (by simp) _).setCell (by simp) _).setCell (by simp) _
  have h2 := hpv.below hb
  intro i hi
  by_cases e : i = k
  · subst e
    rw [← hp]
    refine ⟨v, ?_, ?_, ?_, (hby.mono (by omega)).kept hk⟩
    · rw [Nat.zero_add, cell_set_ne (by omega), cell_set_ne (by omega), cell_set_same c0]
    · rw [Nat.zero_add, cell_set_ne (by omega)]
      exact cell_set_same (u := x1) (by rw [cell_set_ne (by omega)]; exact c1)
    · rw [Nat.zero_add]
      exact cell_set_same (u := x2) (by rw [cell_set_ne (by omega), cell_set_ne (by omega)]; exact c2)
  · obtain ⟨dv, a0, a1, a2, a3⟩ := h2 i (by omega)
    refine ⟨dv, ?_, ?_, ?_, a3.kept hk⟩
    · rw [cell_set_ne (by omega), cell_set_ne (by omega), cell_set_ne (by omega)]; exact a0
    · rw [cell_set_ne (by omega), cell_set_ne (by omega), cell_set_ne (by omega)]; exact a1
    · rw [cell_set_ne (by omega), cell_set_ne (by omega), cell_set_ne (by omega)]; exact a2
theorem pv_below {w wr w1 : World} {x0 x1 x2 : Value} {B o0 o1 o2 : Nat} (h : Below B w wr) (hb : Below wr.heap.size wr w1) (hB : B ≤ wr.heap.size) :
    Below B w (((w1.setCell ⟨B, o0, none⟩ x0).setCell ⟨B, o1, none⟩ x1).setCell ⟨B, o2, none⟩ x2) :=
  (((h.trans (hb.mono hB)).setCell (by simp) _).setCell (by simp) _).setCell (by simp) _
end Go.Proofs.Qxb6601806a
