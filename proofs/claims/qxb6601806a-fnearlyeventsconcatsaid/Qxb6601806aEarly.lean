/-
  isLoader, slices.IndexFunc, earlyEvents: what the Go texts do.
-/
import Derived.Test.Qxb6601806aProg
import Derived.Test.Qxb6601806aEvBase
namespace Go.Proofs.Qxb6601806a
open Go.RowKit
/-- The first boot loader's event. -/
def ldB (ty pcr : Int) : Bool := (ty == 2147483651) && (pcr == 4)
set_option maxHeartbeats 800000 in
theorem isLoader_any (pcr ty : Int) (da ba : Option Addr) (dn dc bn bc : Nat) (w : World) :
    Calls Try.prog 14 #[.agg #[.int .u32 pcr, .int .u32 ty, .slice da dn dc, .slice ba bn bc]] w fun e w' => e = .returned (.bool (ldB ty pcr)) ∧ Below w.heap.size w w' := by
  by_cases h1 : (ty == 2147483651) = true
  · go_enter Try.func14, Try.ntmps14
    go_wp2
    go_ret
    exact ⟨by simp [ldB, h1], (Below.refl _ _).alloc (Nat.le_refl _) _⟩
  · have h1' : (ty == 2147483651) = false := by simpa using h1
    clear h1
    go_enter Try.func14, Try.ntmps14
    go_wp2
    go_ret
    exact ⟨by simp [ldB, h1'], (Below.refl _ _).alloc (Nat.le_refl _) _⟩
set_option maxHeartbeats 800000 in
theorem lit1_any (pcr ty : Int) (da ba : Option Addr) (dn dc bn bc : Nat) (w : World) :
    Calls Try.prog 36 #[.agg #[.int .u32 pcr, .int .u32 ty, .slice da dn dc, .slice ba bn bc]] w fun e w' => e = .returned (.bool (ldB ty pcr)) ∧ Below w.heap.size w w' := by
  by_cases h1 : (ty == 2147483651) = true
  · go_enter Try.func36, Try.ntmps36
    go_wp2
    go_ret
    exact ⟨by simp [ldB, h1], (Below.refl _ _).alloc (Nat.le_refl _) _⟩
  · have h1' : (ty == 2147483651) = false := by simpa using h1
    clear h1
    go_enter Try.func36, Try.ntmps36
    go_wp2
    go_ret
    exact ⟨by simp [ldB, h1'], (Below.refl _ _).alloc (Nat.le_refl _) _⟩
def LdAt (es : List Ev) (i : Nat) : Bool := ldB (es.getD i ev0).ty (es.getD i ev0).pcr
set_option maxHeartbeats 1600000 in
theorem indexFunc_any (a : Option Addr) (c : Nat) (es : List Ev) (lo : Nat) (w : World) (hn : es.length ≤ 1048576)
    (hcase : es.length = 0 ∨ ∃ b off, a = some ⟨b, off, none⟩ ∧ EvRow w b off lo es.length es) :
    Calls Try.prog 35 #[.slice a es.length c, .func (.func 36) #[] #[]] w fun e w' => Below w.heap.size w w' ∧
      ((e = .returned (.int .i64 (-1)) ∧ ∀ i, i < es.length → LdAt es i = false) ∨ ∃ i, i < es.length ∧ e = .returned (.int .i64 (i : Nat)) ∧ LdAt es i = true ∧ ∀ j, j < i → LdAt es j = false) := by
  generalize hN : es.length = n at *
  go_enter Try.func35, Try.ntmps35
  go_wp2
  go_loopw [8] (fun i wr => Below w.heap.size w wr ∧ ∃ (k : Nat), k ≤ n ∧ i = .int .i64 k ∧ ∀ j, j < k → LdAt es j = false) (fun i _ => n - (intOf i).toNat)
  case atStart => exact ⟨Below.refl _ _, 0, Nat.zero_le _, rfl, fun j hj => absurd hj (by omega)⟩
  case round =>
    obtain ⟨hbel, k, hk, rfl, hno⟩ := hrel
    by_cases hlt : k < n
    · obtain ⟨b, off, rfl, hrow⟩ := hcase.resolve_left (by omega)
      obtain ⟨dv, bv, c0, c1, c2, c3, hds, hby⟩ := hrow k hlt
      have hbw : b < w.heap.size := lt_of_cell c0
      obtain ⟨p, hp⟩ : ∃ p, p = es.getD k ev0 := ⟨_, rfl⟩
      rw [← hp] at c0 c1 hby hds
      obtain ⟨da, dc, rfl, hdc, hdn, hdcase⟩ := hds
      obtain ⟨ba, bc, rfl, hbc, _, _⟩ := hby
      have d0 := below_cell hbel c0
      have d1 := below_cell hbel c1
      have d2 := below_cell hbel c2
      have d3 := below_cell hbel c3
      have HP : Hid (p = es.getD k ev0 ∧ (∀ j, j < k → LdAt es j = false)) := ⟨hp, hno⟩
      clear hp hno hrow c0 c1 c2 c3 hcase hdcase hdn
      go_wp2_with (go_at_call 36; refine (lit1_any _ _ _ _ _ _ _ _ _).mono ?_; rintro e w1 ⟨rfl, hb1⟩)
      · have hl : ldB p.ty p.pcr = true := by assumption
        obtain ⟨hp, hno⟩ := HP.out
        go_ret
        exact ⟨hbel.trans (hb1.mono hbel.size), .inr ⟨k, hlt, rfl, by unfold LdAt; rw [← hp]; exact hl, hno⟩⟩
      · have hl : ldB p.ty p.pcr = false := by assumption
        obtain ⟨hp, hno⟩ := HP.out
        go_roundw
        case rel => exact ⟨hbel.trans (hb1.mono hbel.size), k + 1, by omega, by go_num, fun j hj => by
            by_cases e : j = k
            · subst e; unfold LdAt; rw [← hp]; exact hl
            · exact hno j (by omega)⟩
        case measure => simp [intOf]; omega
    · go_wp2
      go_ret
      obtain rfl : k = n := by omega
      exact ⟨hbel, .inl ⟨rfl, hno⟩⟩
/-- 'm' is the length of early boot's events. -/
def Early (es : List Ev) (m : Nat) : Prop := (∀ j, j + 1 < m → LdAt es j = false) ∧ ((m = es.length ∧ ∀ j, j < es.length → LdAt es j = false) ∨ (1 ≤ m ∧ m ≤ es.length ∧ LdAt es (m - 1) = true))
set_option maxHeartbeats 800000 in
theorem early_any (a : Option Addr) (c : Nat) (es : List Ev) (lo : Nat) (w : World) (hn : es.length ≤ 1048576) (hc : es.length ≤ c)
    (hcase : es.length = 0 ∨ ∃ b off, a = some ⟨b, off, none⟩ ∧ EvRow w b off lo es.length es) :
    Calls Try.prog 31 #[.slice a es.length c] w fun e w' => Below w.heap.size w w' ∧ ∃ m, m ≤ es.length ∧ e = .returned (.slice a m c) ∧ Early es m := by
  have hI := indexFunc_any a c es lo w hn hcase
  generalize hN : es.length = n at *
  have HI := hI
  clear hI
  go_enter Try.func31, Try.ntmps31
  go_wp2_with fail
  refine HI.mono ?_
  rintro e w1 ⟨hb1, ⟨rfl, hall⟩ | ⟨i, hi, rfl, hld, hno⟩⟩
  · have Hall : Hid (∀ i, i < n → LdAt es i = false) := hall
    clear hall HI hcase
    go_wp2
    go_ret
    exact ⟨hb1, n, Nat.le_refl _, rfl, fun j hj => Hall.out j (by omega), .inl ⟨hN.symm, fun j hj => Hall.out j (by omega)⟩⟩
  · obtain ⟨b, off, rfl, _⟩ := hcase.resolve_left (by omega)
    have Hall : Hid (LdAt es i = true ∧ ∀ j, j < i → LdAt es j = false) := ⟨hld, hno⟩
    clear hld hno HI hcase
    have h1 : (i : Int) + 1 ≤ (c : Int) := by omega
    go_wp2
    go_ret
    exact ⟨hb1, i + 1, by omega, rfl, fun j hj => Hall.out.2 j (by omega), .inr ⟨by omega, by omega, Hall.out.1⟩⟩
set_option maxHeartbeats 800000 in
theorem zzEarly_any (a : Option Addr) (c : Nat) (es : List Ev) (lo : Nat) (w : World) (hn : es.length ≤ 1048576) (hc : es.length ≤ c)
    (hcase : es.length = 0 ∨ ∃ b off, a = some ⟨b, off, none⟩ ∧ EvRow w b off lo es.length es) :
    Calls Try.prog 13 #[.slice a es.length c] w fun e w' => Below w.heap.size w w' ∧ ∃ m, m ≤ es.length ∧ e = .returned (.slice a m c) ∧ Early es m := by
  have HI := early_any a c es lo w hn hc hcase
  generalize hN : es.length = n at *
  clear hcase
  go_enter Try.func13, Try.ntmps13
  go_wp2_with fail
  refine HI.mono ?_
  rintro e w1 ⟨hb1, m, hm, rfl, hearly⟩
  go_wp2
  go_ret
  exact ⟨hb1, m, hm, rfl, hearly⟩
end Go.Proofs.Qxb6601806a
