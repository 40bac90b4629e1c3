/-
  toEvents: what the Go text does.
-/
import Derived.Test.Qxb6601806aClone
import Derived.Test.Qxb6601806aEvBase
import Derived.Deep.RegionHeld3
import Derived.Deep.DrawnRows
import Derived.Deep.DeepCutAuto
namespace Go.Proofs.Qxb6601806a
open Go.RowKit
attribute [local go_sem ↓] Go.wp_at_zero Go.wp_at_succ
theorem Try.info35 : (Try.prog.info? 35).map (fun i => (i.zero, i.size, i.bytes)) = some (some (.agg #[.int .u32 0, .int .u32 0, .slice none 0 0, .slice none 0 0]), 4, 56) := by kernel_rfl
theorem Try.info74 : (Try.prog.info? 74).map (fun i => (i.zero, i.size, i.bytes)) = some (some (.agg #[.int .u16 0, .slice none 0 0]), 2, 32) := by kernel_rfl

set_option maxHeartbeats 4000000 in
set_option maxRecDepth 100000 in
theorem toEvents_some (b off c : Nat) (es : List Ev) (lo : Nat) (w : World) (hs : EvsSmall es)
    (hrow : EvRow w b off lo es.length es) (h0 : 0 < es.length) :
    Calls Try.prog 12 #[.slice (some ⟨b, off, none⟩) es.length c] w fun e w' => e = .returned (.slice (some ⟨w.heap.size, 0, none⟩) es.length es.length) ∧ Below w.heap.size w w' ∧ EvRow w' w.heap.size 0 (w.heap.size + 1) es.length es := by
  obtain ⟨hn, hsm⟩ := hs
  have hmk := run_make_wide (P := Try.prog) 26 35 _ 4 56 Try.underlying26 Try.info35 .i64 .i64 es.length (by omega) (by omega)
  have q22 : ∀ (w : World) (a : Option Addr) (n c n' c' : Nat), (binOp .eql 22 (.slice a n c) (.slice none n' c')).run Try.prog w = .ok (.bool a.isNone) w := fun w a n c n' c' => Lib.run_eql_slice_nil w _ _ a n c n' c' Try.underlying22
  have q37 : ∀ (w : World) (a : Option Addr) (n c n' c' : Nat), (binOp .neq 37 (.slice a n c) (.slice none n' c')).run Try.prog w = .ok (.bool (!a.isNone)) w := fun w a n c n' c' => run_neq_slice_nil_any w _ _ a n c n' c' Try.underlying37
  have hW0 := Row.made w (Value.agg #[.int .u32 0, .int .u32 0, .slice none 0 0, .slice none 0 0]).cells (es.length * 4) 35
  have hB0 : Below w.heap.size w (w.alloc (Obj.cells (madeCells (Value.agg #[.int .u32 0, .int .u32 0, .slice none 0 0, .slice none 0 0]).cells (es.length * 4)) 35)) := (Below.refl _ _).alloc (Nat.le_refl _) _
  have hbw : b < w.heap.size := by obtain ⟨dv, bv, h1, _⟩ := hrow 0 h0; exact lt_of_cell h1
  generalize hN : es.length = n at *
  go_enter Try.func12, Try.ntmps12
  go_wp2
  go_loopw [4] (fun i wr => ∃ k : Nat, k ≤ n ∧ i = .int .i64 k ∧ Below w.heap.size w wr ∧ Row wr w.heap.size 35 (n * 4) ∧ EvRow wr w.heap.size 0 (w.heap.size + 1) k es) (fun i _ => n - (intOf i).toNat)
  case atStart => exact ⟨0, Nat.zero_le _, rfl, hB0, hW0, fun i hi => absurd hi (by omega)⟩
  case round =>
    obtain ⟨wo, rfl⟩ : ∃ wo, wo = wr := ⟨_, rfl⟩
    obtain ⟨k, hk, rfl, hbel, hown, hpv⟩ := hrel
    by_cases hlt : k < n
    · obtain ⟨dv, bv, c0, c1, c2, c3, hds, hby⟩ := hrow k hlt
      have hsk := hsm k hlt
      obtain ⟨p, hp⟩ : ∃ p, p = es.getD k ev0 := ⟨_, rfl⟩
      rw [← hp] at c0 c1 hby hds hsk
      obtain ⟨hdl, hbl, hvl⟩ := hsk
      have d0 : wo.cell? ⟨b, off + k * 4, none⟩ = some (.int .u32 p.pcr) := by rw [hbel.cell (p := ⟨b, off + k * 4, none⟩) hbw]; exact c0
      have d1 : wo.cell? ⟨b, off + k * 4 + 1, none⟩ = some (.int .u32 p.ty) := by rw [hbel.cell (p := ⟨b, off + k * 4 + 1, none⟩) hbw]; exact c1
      have d2 : wo.cell? ⟨b, off + k * 4 + 2, none⟩ = some dv := by rw [hbel.cell (p := ⟨b, off + k * 4 + 2, none⟩) hbw]; exact c2
      have d3 : wo.cell? ⟨b, off + k * 4 + 3, none⟩ = some bv := by rw [hbel.cell (p := ⟨b, off + k * 4 + 3, none⟩) hbw]; exact c3
      have hds' := hds.below hbel
      have hby' := hby.below hbel
      have hbr : b < wo.heap.size := Nat.lt_of_lt_of_le hbw hbel.size
      have hor : w.heap.size < wo.heap.size := hown.lt
      obtain ⟨da, dc, rfl, hdc, hdn, hdcase⟩ := hds'
      obtain ⟨m, hm⟩ : ∃ m, m = p.ds.length := ⟨_, rfl⟩
      rw [← hm] at hdl hvl d2 hdc hdcase
      have Hps : Hid (m = p.ds.length ∧ p = es.getD k ev0 ∧ EvRow wo w.heap.size 0 (w.heap.size + 1) k es ∧ Row wo w.heap.size 35 (n * 4) ∧ Below w.heap.size w wo) := ⟨hm, hp, hpv, hown, hbel⟩
      clear hmk hW0 hB0 c0 c1 c2 c3 hpv hown hrow hby hds hbel hp hm hsm
      go_upto_if 23 with fail
      go_cut [5] (fun s5 wx => ∃ a' c', s5 = .slice a' m c' ∧ IsDigs wx (w.heap.size + 1) (.slice a' m c') p.ds ∧ Below wo.heap.size wo wx)
      case first =>
        have hmk2 := run_make_wide (P := Try.prog) 32 74 _ 2 32 Try.underlying32 Try.info74 .i64 .i64 m (by omega) (by omega)
        have hW2 := Row.made wo (Value.agg #[.int .u16 0, .slice none 0 0]).cells (m * 2) 74
        have hB2 : Below wo.heap.size wo (wo.alloc (Obj.cells (madeCells (Value.agg #[.int .u16 0, .slice none 0 0]).cells (m * 2)) 74)) := (Below.refl _ _).alloc (Nat.le_refl _) _
        cases da with
        | none =>
          obtain rfl := hdn rfl
          obtain rfl : m = 0 := by omega
          clear hdcase hmk2 hW2 hB2 hvl hdc hdl
          go_wp2
          go_meet
          have hz := Hps.out.1
          exact ⟨none, 0, rfl, ⟨none, 0, by rw [← hz], by omega, fun _ => rfl, .inl hz.symm⟩, Below.refl _ _⟩
        | some da =>
          rcases Nat.eq_zero_or_pos m with hz | hm0
          · clear hdcase; subst hz
            clear hvl hdc hdl hdn
            simp only [Int.natCast_zero] at hmk2
            go_wp2
            refine wp_loop_rounds 1 ?_
            rw [rounds_succ]
            go_wp2
            go_meet
            have hz := Hps.out.1
            exact ⟨_, _, rfl, ⟨_, 0, by rw [← hz], by omega, fun _ => rfl, .inl hz.symm⟩, hB2⟩
          · obtain ⟨b2, off2, hda, hlo2, hdrow⟩ := hdcase.resolve_left (by omega)
            obtain rfl := Option.some.inj hda
            clear hda hdn hdcase
            have hb2r : b2 < wo.heap.size := by obtain ⟨dv, h1, _⟩ := hdrow 0 hm0; exact lt_of_cell h1
            go_wp2
            go_loopg [6] m (fun g j wr => ∃ q : Nat, q + g = m ∧ j = .int .i64 q ∧ Below wo.heap.size wo wr ∧ Row wr wo.heap.size 74 (m * 2) ∧ DgRow wr wo.heap.size 0 (wo.heap.size + 1) q p.ds)
            case atStart => exact ⟨0, by omega, rfl, hB2, hW2, fun i hi => absurd hi (by omega)⟩
            case round =>
              obtain ⟨q, hq, rfl, hbelI, hownI, hdgI⟩ := hrel
              have x2 : wr.cell? ⟨b, off + k * 4 + 2, none⟩ = some (.slice (some ⟨b2, off2, none⟩) m dc) := below_cell hbelI d2
              by_cases hltI : q < m
              · obtain ⟨vv, g0, g1, hbyI⟩ := hdrow q hltI
                have hvlq := hvl q hltI
                obtain ⟨g, hg⟩ : ∃ g, g = p.ds.getD q dg0 := ⟨_, rfl⟩
                rw [← hg] at g0 hbyI hvlq
                have y0 : wr.cell? ⟨b2, off2 + q * 2, none⟩ = some (.int .u16 g.alg) := below_cell hbelI g0
                have y1 : wr.cell? ⟨b2, off2 + q * 2 + 1, none⟩ = some vv := below_cell hbelI g1
                have hbyI' := hbyI.below hbelI
                obtain ⟨z0, e0⟩ := hownI.cell (i := q * 2) (by omega)
                obtain ⟨z1, e1⟩ := hownI.cell (i := q * 2 + 1) (by omega)
                have f0 := hownI.frozen (q * 2)
                have f1 := hownI.frozen (q * 2 + 1)
                have hszI := hbelI.size
                have hownlt := hownI.lt
                have hbi : b < wr.heap.size := by omega
                have hb2i : b2 < wr.heap.size := by omega
                have n1 : ¬ b = wo.heap.size := by omega
                have n1' : ¬ wo.heap.size = b := by omega
                have n2 : ¬ b2 = wo.heap.size := by omega
                have n2' : ¬ wo.heap.size = b2 := by omega
                have hkI : (k : Int) < (n : Int) := by omega
                have hkI0 : (0 : Int) ≤ (k : Int) := by omega
                have hqI : (q : Int) < (m : Int) := by omega
                have hqI0 : (0 : Int) ≤ (q : Int) := by omega
                have HI : Hid (g = p.ds.getD q dg0 ∧ DgRow wr wo.heap.size 0 (wo.heap.size + 1) q p.ds ∧ Row wr wo.heap.size 74 (m * 2) ∧ Below wo.heap.size wo wr) := ⟨hg, hdgI, hownI, hbelI⟩
                clear hg hdgI hownI hbelI hdrow hbyI g0 g1 hmk2 hW2 hB2 hvl d0 d1 d2 d3 hby'
                go_wp2
                go_region_held3 (fun w' => w'.cell? ⟨b, off + k * 4 + 2, none⟩ = some (.slice (some ⟨b2, off2, none⟩) m dc) ∧ w'.cell? ⟨b2, off2 + q * 2, none⟩ = some (.int .u16 g.alg) ∧ w'.cell? ⟨b2, off2 + q * 2 + 1, none⟩ = some vv) (go_keep)
                  ((go_at_call 30; refine (cloneBytes_any _ g.val lo _ ?_ hvlq).mono ?_; (exact hbyI'); rintro e w1 ⟨a1, cp1, rfl, hb0, hby1⟩; have hb1 := below_undrew hb0; clear hb0; obtain ⟨hc1, hf1⟩ := bcell hb1))
                go_wp2
                obtain ⟨hg, hdgI, hownI, hbelI⟩ := HI.out
                have R := dg_step hdgI hownI hb1 (by omega) hg hby1
                go_roundg (gk - 1)
                case measure => omega
                case rel => exact ⟨q + 1, by omega, by go_num, ((hbelI.trans (hb1.mono (by omega))).setCell (by simp) _).setCell (by simp) _, R.1, R.2⟩
              · go_wp2
                go_meet
                have hm := Hps.out.1
                obtain rfl : q = m := by omega
                exact ⟨_, _, rfl, ⟨_, q, by rw [← hm], by omega, fun h => by simp at h, .inr ⟨wo.heap.size, 0, rfl, by omega, by rw [← hm]; exact hdgI.mono (by omega)⟩⟩, hbelI⟩
      case rest =>
        obtain ⟨a', c', rfl, hdg, hbx⟩ := hcut
        obtain ⟨hm, hp, hpv, hown, hbel⟩ := Hps.out
        have s0 : wc.cell? ⟨b, off + k * 4, none⟩ = some (.int .u32 p.pcr) := below_cell hbx d0
        have s1 : wc.cell? ⟨b, off + k * 4 + 1, none⟩ = some (.int .u32 p.ty) := below_cell hbx d1
        have s3 : wc.cell? ⟨b, off + k * 4 + 3, none⟩ = some bv := below_cell hbx d3
        have hbyc := hby'.below hbx
        have hownc := hown.below hbx
        have hpvc := hpv.below hbx
        have hbelc := hbel.trans (hbx.mono (by omega))
        obtain ⟨z0, e0⟩ := hownc.cell (i := k * 4) (by omega)
        obtain ⟨z1, e1⟩ := hownc.cell (i := k * 4 + 1) (by omega)
        obtain ⟨z2, e2⟩ := hownc.cell (i := k * 4 + 2) (by omega)
        obtain ⟨z3, e3⟩ := hownc.cell (i := k * 4 + 3) (by omega)
        have f0 := hownc.frozen (k * 4)
        have f1 := hownc.frozen (k * 4 + 1)
        have f2 := hownc.frozen (k * 4 + 2)
        have f3 := hownc.frozen (k * 4 + 3)
        have hszc := hbx.size
        have hbc : b < wc.heap.size := by omega
        have hoc : w.heap.size < wc.heap.size := by omega
        have n1 : ¬ b = w.heap.size := by omega
        have n1' : ¬ w.heap.size = b := by omega
        have hkI : (k : Int) < (n : Int) := by omega
        have hkI0 : (0 : Int) ≤ (k : Int) := by omega
        have HC : Hid (p = es.getD k ev0 ∧ EvRow wc w.heap.size 0 (w.heap.size + 1) k es ∧ Row wc w.heap.size 35 (n * 4) ∧ Below w.heap.size w wc ∧ IsDigs wc (w.heap.size + 1) (.slice a' m c') p.ds) := ⟨hp, hpvc, hownc, hbelc, hdg⟩
        clear hm hp hpv hown hbel Hps hpvc hownc hbelc hdg d0 d1 d2 d3 hby' hdn hdc hdcase hvl hdl hbx
        go_wp2
        go_region_held3 (fun w' => w'.cell? ⟨b, off + k * 4, none⟩ = some (.int .u32 p.pcr) ∧ w'.cell? ⟨b, off + k * 4 + 1, none⟩ = some (.int .u32 p.ty) ∧ w'.cell? ⟨b, off + k * 4 + 3, none⟩ = some bv) (go_keep)
          ((go_at_call 30; refine (cloneBytes_any _ p.data lo _ ?_ hbl).mono ?_; (exact hbyc); rintro e w1 ⟨a1, cp1, rfl, hb0, hby1⟩; have hb1 := below_undrew hb0; clear hb0; obtain ⟨hc1, hf1⟩ := bcell hb1))
        go_wp2
        obtain ⟨hp, hpv, hown, hbel, hdg⟩ := HC.out
        have R := ev_step hpv hown hb1 (by omega) hp hdg hby1
        go_roundw
        case rel => exact ⟨k + 1, by omega, by go_num, ((((hbel.trans (hb1.mono (by omega))).setCell (by simp) _).setCell (by simp) _).setCell (by simp) _).setCell (by simp) _, R.1, R.2⟩
        case measure => simp [intOf]; omega
    · go_wp2
      go_ret
      obtain rfl : k = n := by omega
      exact ⟨rfl, hbel, hpv⟩

set_option maxHeartbeats 1600000 in
set_option maxRecDepth 100000 in
theorem toEvents_empty (a : Addr) (c : Nat) (w : World) :
    Calls Try.prog 12 #[.slice (some a) 0 c] w fun e w' => e = .returned (.slice (some ⟨w.heap.size, 0, none⟩) 0 0) ∧ Below w.heap.size w w' := by
  have hmk := run_make_wide (P := Try.prog) 26 35 _ 4 56 Try.underlying26 Try.info35 .i64 .i64 0 (by omega) (by omega)
  have q22 : ∀ (w : World) (a : Option Addr) (n c n' c' : Nat), (binOp .eql 22 (.slice a n c) (.slice none n' c')).run Try.prog w = .ok (.bool a.isNone) w := fun w a n c n' c' => Lib.run_eql_slice_nil w _ _ a n c n' c' Try.underlying22
  simp only [Int.natCast_zero] at hmk
  go_enter Try.func12, Try.ntmps12
  go_wp2
  refine wp_loop_rounds 1 ?_
  rw [rounds_succ]
  go_wp2
  go_ret
  exact ⟨rfl, (Below.refl _ _).alloc (Nat.le_refl _) _⟩
set_option maxHeartbeats 800000 in
theorem toEvents_nil (c : Nat) (w : World) :
    Calls Try.prog 12 #[.slice none 0 c] w fun e w' => e = .returned (.slice none 0 0) ∧ w' = w := by
  have q22 : ∀ (w : World) (a : Option Addr) (n c n' c' : Nat), (binOp .eql 22 (.slice a n c) (.slice none n' c')).run Try.prog w = .ok (.bool a.isNone) w := fun w a n c n' c' => Lib.run_eql_slice_nil w _ _ a n c n' c' Try.underlying22
  go_enter Try.func12, Try.ntmps12
  go_wp2
  go_ret
  exact ⟨rfl, rfl⟩
/-- It makes a copy, in new memory. -/
theorem toEvents_any (v : Value) (es : List Ev) (lo lo' : Nat) (w : World) (h : IsEvs w lo lo' v es) (hs : EvsSmall es) :
    Calls Try.prog 12 #[v] w fun e w' => ∃ a' c', e = .returned (.slice a' es.length c') ∧ Below w.heap.size w w' ∧ IsEvs w' w.heap.size (w.heap.size + 1) (.slice a' es.length c') es := by
  obtain ⟨a, c, rfl, hc, hnn, hcase⟩ := h
  rcases Nat.eq_zero_or_pos es.length with h | h0
  · rw [h]
    cases a with
    | none =>
      refine (toEvents_nil c w).mono ?_
      rintro e w' ⟨rfl, rfl⟩
      exact ⟨none, 0, rfl, Below.refl _ _, none, 0, by rw [h], by omega, fun _ => rfl, .inl h⟩
    | some a =>
      refine (toEvents_empty a c w).mono ?_
      rintro e w' ⟨rfl, hb⟩
      exact ⟨_, 0, rfl, hb, _, 0, by rw [h], by omega, fun _ => rfl, .inl h⟩
  · obtain ⟨b, off, rfl, hlo, hrow⟩ := hcase.resolve_left (by omega)
    refine (toEvents_some b off c es lo' w hs hrow h0).mono ?_
    rintro e w' ⟨rfl, hb, hr⟩
    exact ⟨_, _, rfl, hb, _, _, rfl, Nat.le_refl _, fun h => by simp at h, .inr ⟨_, 0, rfl, Nat.le_refl _, hr⟩⟩
end Go.Proofs.Qxb6601806a
