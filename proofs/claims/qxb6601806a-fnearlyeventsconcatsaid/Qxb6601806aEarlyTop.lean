/-
  earlyEvents once more, over events of which only their own cells are known (the joined log of FnEarlyEventsConcat); the plain law on a log that is cut in two.
-/
import Derived.Test.Qxb6601806aEarly
namespace Go.Proofs.Qxb6601806a
open Go.RowKit

/-- The first k events' own cells (of the slices that they hold nothing is asked). -/
def EvTop (w : World) (b off k : Nat) (es : List Ev) : Prop :=
  ∀ i, i < k → ∃ (da : Option Addr) (dn dc : Nat) (ba : Option Addr) (bn bc : Nat), w.cell? ⟨b, off + i * 4, none⟩ = some (.int .u32 (es.getD i ev0).pcr) ∧ w.cell? ⟨b, off + i * 4 + 1, none⟩ = some (.int .u32 (es.getD i ev0).ty) ∧
    w.cell? ⟨b, off + i * 4 + 2, none⟩ = some (.slice da dn dc) ∧ w.cell? ⟨b, off + i * 4 + 3, none⟩ = some (.slice ba bn bc)
theorem EvRow.top {w : World} {b off lo k : Nat} {es : List Ev} (h : EvRow w b off lo k es) : EvTop w b off k es := by
  intro i hi
  obtain ⟨dv, bv, h1, h2, h3, h4, ⟨da, dc, rfl, _⟩, ⟨ba, bc, rfl, _⟩⟩ := h i hi
  exact ⟨_, _, _, _, _, _, h1, h2, h3, h4⟩
theorem EvTop.below {w w' : World} {b off k : Nat} {es : List Ev} (h : EvTop w b off k es) (hb : Below w.heap.size w w') : EvTop w' b off k es := by
  intro i hi
  obtain ⟨da, dn, dc, ba, bn, bc, h1, h2, h3, h4⟩ := h i hi
  exact ⟨_, _, _, _, _, _, below_cell hb h1, below_cell hb h2, below_cell hb h3, below_cell hb h4⟩
/-- What 'ab[k] = x' does to the row that is being filled. -/
theorem top_step {w : World} {B T N k : Nat} {es : List Ev} {p : Ev} {da ba : Option Addr} {dn dc bn bc : Nat} (h : EvTop w B 0 k es) (hown : Row w B T N) (hN : k * 4 + 4 ≤ N) (hp : p = es.getD k ev0) :
    Row ((((w.setCell ⟨B, k * 4, none⟩ (.int .u32 p.pcr)).setCell ⟨B, k * 4 + 1, none⟩ (.int .u32 p.ty)).setCell ⟨B, k * 4 + 2, none⟩ (.slice da dn dc)).setCell ⟨B, k * 4 + 3, none⟩ (.slice ba bn bc)) B T N ∧
    EvTop ((((w.setCell ⟨B, k * 4, none⟩ (.int .u32 p.pcr)).setCell ⟨B, k * 4 + 1, none⟩ (.int .u32 p.ty)).setCell ⟨B, k * 4 + 2, none⟩ (.slice da dn dc)).setCell ⟨B, k * 4 + 3, none⟩ (.slice ba bn bc)) B 0 (k + 1) es := by
  obtain ⟨x0, c0⟩ := hown.cell (i := k * 4) (by omega)
  obtain ⟨x1, c1⟩ := hown.cell (i := k * 4 + 1) (by omega)
  obtain ⟨x2, c2⟩ := hown.cell (i := k * 4 + 2) (by omega)
  obtain ⟨x3, c3⟩ := hown.cell (i := k * 4 + 3) (by omega)
  refine ⟨(((hown.set _ _).set _ _).set _ _).set _ _, ?_⟩
  intro i hi
  by_cases e : i = k
  · subst e
    rw [← hp]
    refine ⟨da, dn, dc, ba, bn, bc, ?_, ?_, ?_, ?_⟩
    · rw [Nat.zero_add, cell_set_ne (by omega), cell_set_ne (by omega), cell_set_ne (by omega), cell_set_same c0]
    · rw [Nat.zero_add, cell_set_ne (by omega), cell_set_ne (by omega)]
      exact cell_set_same (u := x1) (by rw [cell_set_ne (by omega)]; exact c1)
    · rw [Nat.zero_add, cell_set_ne (by omega)]
      exact cell_set_same (u := x2) (by rw [cell_set_ne (by omega), cell_set_ne (by omega)]; exact c2)
    · rw [Nat.zero_add]
      exact cell_set_same (u := x3) (by rw [cell_set_ne (by omega), cell_set_ne (by omega), cell_set_ne (by omega)]; exact c3)
  · obtain ⟨da', dn', dc', ba', bn', bc', a0, a1, a2, a3⟩ := h i (by omega)
    refine ⟨da', dn', dc', ba', bn', bc', ?_, ?_, ?_, ?_⟩
    · rw [cell_set_ne (by omega), cell_set_ne (by omega), cell_set_ne (by omega), cell_set_ne (by omega)]; exact a0
    · rw [cell_set_ne (by omega), cell_set_ne (by omega), cell_set_ne (by omega), cell_set_ne (by omega)]; exact a1
    · rw [cell_set_ne (by omega), cell_set_ne (by omega), cell_set_ne (by omega), cell_set_ne (by omega)]; exact a2
    · rw [cell_set_ne (by omega), cell_set_ne (by omega), cell_set_ne (by omega), cell_set_ne (by omega)]; exact a3

theorem getD_left (xs ys : List Ev) {i : Nat} (h : i < xs.length) : (xs ++ ys).getD i ev0 = xs.getD i ev0 := by
  simp [List.getD, List.getElem?_append_left h]
theorem getD_right (xs ys : List Ev) (i : Nat) : (xs ++ ys).getD (xs.length + i) ev0 = ys.getD i ev0 := by
  simp [List.getD, List.getElem?_append_right (show xs.length ≤ xs.length + i by omega)]
theorem LdAt_left (xs ys : List Ev) {i : Nat} (h : i < xs.length) : LdAt (xs ++ ys) i = LdAt xs i := by unfold LdAt; rw [getD_left xs ys h]
theorem LdAt_right (xs ys : List Ev) (i : Nat) : LdAt (xs ++ ys) (xs.length + i) = LdAt ys i := by unfold LdAt; rw [getD_right xs ys i]

/-- A log's early boot ends once. -/
theorem early_hit {xs ys : List Ev} {m m3 : Nat} (h1 : Early xs m) (h3 : Early (xs ++ ys) m3) (h0 : 0 < m) (hl : LdAt xs (m - 1) = true) : m3 = m := by
  have hm : m ≤ xs.length := by
    rcases h1.2 with ⟨h, _⟩ | ⟨_, h, _⟩ <;> omega
  have hl' : LdAt (xs ++ ys) (m - 1) = true := by rw [LdAt_left _ _ (by omega)]; exact hl
  rcases Nat.lt_trichotomy m3 m with h | h | h
  · rcases h3.2 with ⟨e, _⟩ | ⟨e1, _, e2⟩
    · rw [List.length_append] at e; omega
    · rw [LdAt_left _ _ (by omega), h1.1 (m3 - 1) (by omega)] at e2
      simp at e2
  · exact h
  · rw [h3.1 (m - 1) (by omega)] at hl'
    simp at hl'
theorem early_miss {xs ys : List Ev} {m m2 m3 : Nat} (h1 : Early xs m) (h2 : Early ys m2) (h3 : Early (xs ++ ys) m3) (hl : ¬ (0 < m ∧ LdAt xs (m - 1) = true)) : m = xs.length ∧ m3 = xs.length + m2 := by
  have hno : m = xs.length ∧ ∀ j, j < xs.length → LdAt xs j = false := by
    rcases h1.2 with h | ⟨e1, _, e2⟩
    · exact h
    · exact absurd ⟨by omega, e2⟩ hl
  obtain ⟨hm, hno⟩ := hno
  have hm2 : m2 ≤ ys.length := by
    rcases h2.2 with ⟨h, _⟩ | ⟨_, h, _⟩ <;> omega
  refine ⟨hm, ?_⟩
  rcases Nat.lt_trichotomy m3 (xs.length + m2) with h | h | h
  · rcases h3.2 with ⟨e, _⟩ | ⟨e1, _, e2⟩
    · rw [List.length_append] at e; omega
    · by_cases hx : m3 - 1 < xs.length
      · rw [LdAt_left _ _ hx, hno _ hx] at e2; simp at e2
      · obtain ⟨j, hj⟩ : ∃ j, m3 - 1 = xs.length + j := ⟨m3 - 1 - xs.length, by omega⟩
        rw [hj, LdAt_right, h2.1 j (by omega)] at e2; simp at e2
  · exact h
  · rcases h2.2 with ⟨e, _⟩ | ⟨e1, _, e2⟩
    · have : m3 ≤ (xs ++ ys).length := by
        rcases h3.2 with ⟨h, _⟩ | ⟨_, h, _⟩ <;> omega
      rw [List.length_append] at this; omega
    · rw [← LdAt_right xs ys, h3.1 _ (by omega)] at e2; simp at e2

set_option maxHeartbeats 1600000 in
theorem indexFunc_top (a : Option Addr) (c : Nat) (es : List Ev) (w : World) (hn : es.length ≤ 4194304)
    (hcase : es.length = 0 ∨ ∃ b off, a = some ⟨b, off, none⟩ ∧ EvTop w b off es.length es) :
    Calls Try.prog 35 #[.slice a es.length c, .func (.func 36) #[] #[]] w fun e w' => Below w.heap.size w w' ∧
      ((e = .returned (.int .i64 (-1)) ∧ ∀ i, i < es.length → LdAt es i = false) ∨ ∃ i, i < es.length ∧ e = .returned (.int .i64 (i : Nat)) ∧ LdAt es i = true ∧ ∀ j, j < i → LdAt es j = false) := by
  generalize hN : es.length = n at *
  go_enter Try.func35, Try.ntmps35
  go_wp2
  go_loopw [8] (fun i wr => Below w.heap.size w wr ∧ ∃ (k : Nat), k ≤ n ∧ i = .int .i64 k ∧ ∀ j, j < k → LdAt es j = false) (fun i _ => n - (intOf i).toNat)
  case atStart => exact ⟨Below.refl _ _, 0, Nat.zero_le _, rfl, fun j hj => absurd hj (by omega)⟩
  case round =>
    obtain ⟨hbel, k, hk, rfl, hno⟩ := hrel
    by_cases hlt : k < n
    · obtain ⟨b, off, rfl, hrow⟩ := hcase.resolve_left (by omega)
      obtain ⟨da, dn, dc, ba, bn, bc, c0, c1, c2, c3⟩ := hrow k hlt
      obtain ⟨p, hp⟩ : ∃ p, p = es.getD k ev0 := ⟨_, rfl⟩
      rw [← hp] at c0 c1
      have d0 := below_cell hbel c0
      have d1 := below_cell hbel c1
      have d2 := below_cell hbel c2
      have d3 := below_cell hbel c3
      have HP : Hid (p = es.getD k ev0 ∧ (∀ j, j < k → LdAt es j = false)) := ⟨hp, hno⟩
      clear hp hno hrow c0 c1 c2 c3 hcase
      go_wp2_with (go_at_call 36; refine (lit1_any _ _ _ _ _ _ _ _ _).mono ?_; rintro e w1 ⟨rfl, hb1⟩)
      · have hl : ldB p.ty p.pcr = true := by assumption
        obtain ⟨hp, hno⟩ := HP.out
        go_ret
        exact ⟨hbel.trans (hb1.mono hbel.size), .inr ⟨k, hlt, rfl, by unfold LdAt; rw [← hp]; exact hl, hno⟩⟩
      · have hl : ldB p.ty p.pcr = false := by assumption
        obtain ⟨hp, hno⟩ := HP.out
        go_roundw
        case rel => exact ⟨hbel.trans (hb1.mono hbel.size), k + 1, by omega, by go_num, fun j hj => by
            by_cases e : j = k
            · subst e; unfold LdAt; rw [← hp]; exact hl
            · exact hno j (by omega)⟩
        case measure => simp [intOf]; omega
    · go_wp2
      go_ret
      obtain rfl : k = n := by omega
      exact ⟨hbel, .inl ⟨rfl, hno⟩⟩
set_option maxHeartbeats 800000 in
theorem early_top (a : Option Addr) (c : Nat) (es : List Ev) (w : World) (hn : es.length ≤ 4194304) (hc : es.length ≤ c)
    (hcase : es.length = 0 ∨ ∃ b off, a = some ⟨b, off, none⟩ ∧ EvTop w b off es.length es) :
    Calls Try.prog 31 #[.slice a es.length c] w fun e w' => Below w.heap.size w w' ∧ ∃ m, m ≤ es.length ∧ e = .returned (.slice a m c) ∧ Early es m := by
  have hI := indexFunc_top a c es w hn hcase
  generalize hN : es.length = n at *
  have HI := hI
  clear hI
  go_enter Try.func31, Try.ntmps31
  go_wp2_with fail
  refine HI.mono ?_
  rintro e w1 ⟨hb1, ⟨rfl, hall⟩ | ⟨i, hi, rfl, hld, hno⟩⟩
  · have Hall : Hid (∀ i, i < n → LdAt es i = false) := hall
    clear hall HI hcase
    go_wp2
    go_ret
    exact ⟨hb1, n, Nat.le_refl _, rfl, fun j hj => Hall.out j (by omega), .inl ⟨hN.symm, fun j hj => Hall.out j (by omega)⟩⟩
  · obtain ⟨b, off, rfl, _⟩ := hcase.resolve_left (by omega)
    have Hall : Hid (LdAt es i = true ∧ ∀ j, j < i → LdAt es j = false) := ⟨hld, hno⟩
    clear hld hno HI hcase
    have h1 : (i : Int) + 1 ≤ (c : Int) := by omega
    go_wp2
    go_ret
    exact ⟨hb1, i + 1, by omega, rfl, fun j hj => Hall.out.2 j (by omega), .inr ⟨by omega, by omega, Hall.out.1⟩⟩
set_option maxHeartbeats 800000 in
theorem zzEarly_top (a : Option Addr) (c : Nat) (es : List Ev) (w : World) (hn : es.length ≤ 4194304) (hc : es.length ≤ c)
    (hcase : es.length = 0 ∨ ∃ b off, a = some ⟨b, off, none⟩ ∧ EvTop w b off es.length es) :
    Calls Try.prog 13 #[.slice a es.length c] w fun e w' => Below w.heap.size w w' ∧ ∃ m, m ≤ es.length ∧ e = .returned (.slice a m c) ∧ Early es m := by
  have HI := early_top a c es w hn hc hcase
  generalize hN : es.length = n at *
  clear hcase
  go_enter Try.func13, Try.ntmps13
  go_wp2_with fail
  refine HI.mono ?_
  rintro e w1 ⟨hb1, m, hm, rfl, hearly⟩
  go_wp2
  go_ret
  exact ⟨hb1, m, hm, rfl, hearly⟩
theorem zzEarly_len (a : Option Addr) (c : Nat) (es : List Ev) (n : Nat) (w : World) (hl : es.length = n) (hn : n ≤ 4194304) (hc : n ≤ c)
    (hcase : n = 0 ∨ ∃ b off, a = some ⟨b, off, none⟩ ∧ EvTop w b off n es) :
    Calls Try.prog 13 #[.slice a n c] w fun e w' => Below w.heap.size w w' ∧ ∃ m, m ≤ n ∧ e = .returned (.slice a m c) ∧ Early es m := by
  subst hl
  exact zzEarly_top a c es w hn hc hcase
/-- Early boot is empty where the log is, and only there. -/
theorem early_pos {es : List Ev} {m : Nat} (h : Early es m) (h0 : 0 < es.length) : 0 < m := by
  rcases h.2 with ⟨h, _⟩ | ⟨h, _⟩ <;> omega
end Go.Proofs.Qxb6601806a
