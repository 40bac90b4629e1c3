/-
  toValues: what the Go text does.
-/
import Derived.Test.Qxb6601806aClone
import Derived.Test.Qxb6601806aPvBase
import Derived.Deep.RegionHeld3
import Derived.Deep.DrawnRows
namespace Go.Proofs.Qxb6601806a
open Go.RowKit
attribute [local go_sem ↓] Go.wp_at_zero Go.wp_at_succ
theorem Try.info78 : (Try.prog.info? 78).map (fun i => (i.zero, i.size, i.bytes)) = some (some (.agg #[.int .u16 0, .int .u32 0, .slice none 0 0]), 3, 32) := by kernel_rfl
set_option maxHeartbeats 1600000 in
theorem toValues_some (b off c : Nat) (ps : List PV) (lo : Nat) (w : World) (hn : ps.length ≤ 1048576) (hd : ∀ i, i < ps.length → (ps.getD i pv0).dig.length ≤ 1048576)
    (hrow : PVRow w b off lo ps.length ps) (h0 : 0 < ps.length) :
    Calls Try.prog 20 #[.slice (some ⟨b, off, none⟩) ps.length c] w fun e w' => e = .returned (.slice (some ⟨w.heap.size, 0, none⟩) ps.length ps.length) ∧ Below w.heap.size w w' ∧ PVRow w' w.heap.size 0 (w.heap.size + 1) ps.length ps := by
  have hmk := run_make_wide (P := Try.prog) 48 78 _ 3 32 Try.underlying48 Try.info78 .i64 .i64 ps.length (by omega) (by omega)
  have q41 : ∀ (w : World) (a : Option Addr) (n c n' c' : Nat), (binOp .eql 41 (.slice a n c) (.slice none n' c')).run Try.prog w = .ok (.bool a.isNone) w := fun w a n c n' c' => Lib.run_eql_slice_nil w _ _ a n c n' c' Try.underlying41
  have hW0 := Row.made w (Value.agg #[.int .u16 0, .int .u32 0, .slice none 0 0]).cells (ps.length * 3) 78
  have hB0 : Below w.heap.size w (w.alloc (Obj.cells (madeCells (Value.agg #[.int .u16 0, .int .u32 0, .slice none 0 0]).cells (ps.length * 3)) 78)) := (Below.refl _ _).alloc (Nat.le_refl _) _
  have hbw : b < w.heap.size := by obtain ⟨dv, h1, _⟩ := hrow 0 h0; exact lt_of_cell h1
  generalize hN : ps.length = n at *
  go_enter Try.func20, Try.ntmps20
  go_wp2
  go_loopw [4] (fun i wr => ∃ k : Nat, k ≤ n ∧ i = .int .i64 k ∧ Below w.heap.size w wr ∧ Row wr w.heap.size 78 (n * 3) ∧ PVRow wr w.heap.size 0 (w.heap.size + 1) k ps) (fun i _ => n - (intOf i).toNat)
  case atStart => exact ⟨0, Nat.zero_le _, rfl, hB0, hW0, fun i hi => absurd hi (by omega)⟩
  case round =>
    obtain ⟨k, hk, rfl, hbel, hown, hpv⟩ := hrel
    by_cases hlt : k < n
    · obtain ⟨dv, c0, c1, c2, hby⟩ := hrow k hlt
      have hdk := hd k hlt
      obtain ⟨p, hp⟩ : ∃ p, p = ps.getD k pv0 := ⟨_, rfl⟩
      rw [← hp] at c0 c1 hby hdk
      have d0 : wr.cell? ⟨b, off + k * 3, none⟩ = some (.int .u16 p.bank) := by rw [hbel.cell (p := ⟨b, off + k * 3, none⟩) hbw]; exact c0
      have d1 : wr.cell? ⟨b, off + k * 3 + 1, none⟩ = some (.int .u32 p.pcr) := by rw [hbel.cell (p := ⟨b, off + k * 3 + 1, none⟩) hbw]; exact c1
      have d2 : wr.cell? ⟨b, off + k * 3 + 2, none⟩ = some dv := by rw [hbel.cell (p := ⟨b, off + k * 3 + 2, none⟩) hbw]; exact c2
      obtain ⟨x0, e0⟩ := hown.cell (i := k * 3) (by omega)
      obtain ⟨x1, e1⟩ := hown.cell (i := k * 3 + 1) (by omega)
      obtain ⟨x2, e2⟩ := hown.cell (i := k * 3 + 2) (by omega)
      have f0 := hown.frozen (k * 3)
      have f1 := hown.frozen (k * 3 + 1)
      have f2 := hown.frozen (k * 3 + 2)
      have hbr : b < wr.heap.size := Nat.lt_of_lt_of_le hbw hbel.size
      have hor : w.heap.size < wr.heap.size := hown.lt
      have hne : ¬ b = w.heap.size := by omega
      have hne' : ¬ w.heap.size = b := by omega
      have hby' : IsBytes wr lo dv p.dig := hby.kept (Kept.of_below _ hbel)
      have hkI : (k : Int) < (n : Int) := by omega
      have hkI0 : (0 : Int) ≤ (k : Int) := by omega
      have Hps : Hid (p = ps.getD k pv0 ∧ PVRow wr w.heap.size 0 (w.heap.size + 1) k ps ∧ Row wr w.heap.size 78 (n * 3) ∧ Below w.heap.size w wr) := ⟨hp, hpv, hown, hbel⟩
      clear hmk hW0 hB0 c0 c1 c2 hpv hown hrow hby hd hbel hp
      go_wp2
      go_region_held3 (fun w' => w'.cell? ⟨b, off + k * 3, none⟩ = some (.int .u16 p.bank) ∧ w'.cell? ⟨b, off + k * 3 + 1, none⟩ = some (.int .u32 p.pcr) ∧ w'.cell? ⟨b, off + k * 3 + 2, none⟩ = some dv) (go_keep)
        ((go_at_call 30; refine (cloneBytes_any _ p.dig lo _ ?_ hdk).mono ?_; (exact hby'); rintro e w1 ⟨a1, cp1, rfl, hb0, hby1⟩; have hb1 := below_undrew hb0; clear hb0; obtain ⟨hc1, hf1⟩ := bcell hb1))
      go_wp2
      obtain ⟨hp, hpv, hown, hbel⟩ := Hps.out
      have R := pv_step hpv hown hb1 (by omega) hp hby1
      go_roundw
      case rel => exact ⟨k + 1, by omega, by go_num, pv_below hbel hb1 (by omega), R.1, R.2⟩
      case measure => simp [intOf]; omega
    · go_wp2
      go_ret
      obtain rfl : k = n := by omega
      exact ⟨rfl, hbel, hpv⟩

set_option maxHeartbeats 1600000 in
theorem toValues_empty (a : Addr) (c : Nat) (w : World) :
    Calls Try.prog 20 #[.slice (some a) 0 c] w fun e w' => e = .returned (.slice (some ⟨w.heap.size, 0, none⟩) 0 0) ∧ Below w.heap.size w w' := by
  have hmk := run_make_wide (P := Try.prog) 48 78 _ 3 32 Try.underlying48 Try.info78 .i64 .i64 0 (by omega) (by omega)
  have q41 : ∀ (w : World) (a : Option Addr) (n c n' c' : Nat), (binOp .eql 41 (.slice a n c) (.slice none n' c')).run Try.prog w = .ok (.bool a.isNone) w := fun w a n c n' c' => Lib.run_eql_slice_nil w _ _ a n c n' c' Try.underlying41
  simp only [Int.natCast_zero] at hmk
  go_enter Try.func20, Try.ntmps20
  go_wp2
  refine wp_loop_rounds 1 ?_
  rw [rounds_succ]
  go_wp2
  go_ret
  exact ⟨rfl, (Below.refl _ _).alloc (Nat.le_refl _) _⟩
set_option maxHeartbeats 800000 in
theorem toValues_nil (c : Nat) (w : World) :
    Calls Try.prog 20 #[.slice none 0 c] w fun e w' => e = .returned (.slice none 0 0) ∧ w' = w := by
  have q41 : ∀ (w : World) (a : Option Addr) (n c n' c' : Nat), (binOp .eql 41 (.slice a n c) (.slice none n' c')).run Try.prog w = .ok (.bool a.isNone) w := fun w a n c n' c' => Lib.run_eql_slice_nil w _ _ a n c n' c' Try.underlying41
  go_enter Try.func20, Try.ntmps20
  go_wp2
  go_ret
  exact ⟨rfl, rfl⟩
/-- It makes a copy, in new memory. -/
theorem toValues_any (v : Value) (ps : List PV) (lo lo' : Nat) (w : World) (h : IsPVs w lo lo' v ps) (hs : PVsSmall ps) :
    Calls Try.prog 20 #[v] w fun e w' => ∃ a' c', e = .returned (.slice a' ps.length c') ∧ Below w.heap.size w w' ∧ IsPVs w' w.heap.size (w.heap.size + 1) (.slice a' ps.length c') ps := by
  obtain ⟨a, c, rfl, hc, hcase⟩ := h
  rcases Nat.eq_zero_or_pos ps.length with h | h0
  · rw [h]
    cases a with
    | none =>
      refine (toValues_nil c w).mono ?_
      rintro e w' ⟨rfl, rfl⟩
      exact ⟨none, 0, rfl, Below.refl _ _, none, 0, by rw [h], by omega, .inl h⟩
    | some a =>
      refine (toValues_empty a c w).mono ?_
      rintro e w' ⟨rfl, hb⟩
      exact ⟨_, 0, rfl, hb, _, 0, by rw [h], by omega, .inl h⟩
  · obtain ⟨b, off, rfl, hlo, hrow⟩ := hcase.resolve_left (by omega)
    refine (toValues_some b off c ps lo' w hs.1 hs.2 hrow h0).mono ?_
    rintro e w' ⟨rfl, hb, hr⟩
    exact ⟨_, _, rfl, hb, _, _, rfl, Nat.le_refl _, .inr ⟨_, 0, rfl, Nat.le_refl _, hr⟩⟩
end Go.Proofs.Qxb6601806a
