/-
  zzBytes_FnEarlyEventsSpec and evSize: what the Go texts do.
-/
import Derived.Test.Qxb6601806aProg
import Derived.Test.Qxb6601806aEvBase
import Derived.Deep.LoopGhost
namespace Go.Proofs.Qxb6601806a
open Go.RowKit
def EvSmall (p : Ev) : Prop := p.ds.length ≤ 1048576 ∧ p.data.length ≤ 1048576 ∧ ∀ j, j < p.ds.length → (p.ds.getD j dg0).val.length ≤ 1048576
set_option maxHeartbeats 4000000 in
set_option maxRecDepth 100000 in
theorem zz9_any (a : Option Addr) (c : Nat) (es : List Ev) (lo : Nat) (w : World) (hcap : es.length ≤ 9223372036854775807)
    (hcase : es.length = 0 ∨ ∃ b off, a = some ⟨b, off, none⟩ ∧ EvRow w b off lo es.length es)
    (hdm : ∀ i, i < es.length → (es.getD i ev0).ds.length ≤ 9223372036854775807 ∧ (es.getD i ev0).data.length ≤ 9223372036854775807 ∧ ∀ j, j < (es.getD i ev0).ds.length → ((es.getD i ev0).ds.getD j dg0).val.length ≤ 9223372036854775807) :
    Calls Try.prog 9 #[.slice a es.length c] w fun e w' => ∃ r, e = .returned (.bool r) ∧ w' = w ∧ (r = true → EvsSmall es) := by
  generalize hN : es.length = n at *
  by_cases hnb : n ≤ 1048576
  · go_enter Try.func9, Try.ntmps9
    go_wp2
    go_loopw [3, 4] (fun z i wr => wr = w ∧ ∃ (t k : Nat), k ≤ n ∧ t ≤ 1048576 ∧ z = .int .i64 t ∧ i = .int .i64 k ∧ ∀ j, j < k → EvSmall (es.getD j ev0)) (fun _ i _ => n - (intOf i).toNat)
    case atStart => exact ⟨rfl, n, 0, Nat.zero_le _, hnb, rfl, rfl, fun j hj => absurd hj (by omega)⟩
    case round =>
      obtain ⟨hwr, t, k, hk, ht, rfl, rfl, hsm⟩ := hrel
      obtain rfl := hwr
      obtain ⟨wo, rfl⟩ : ∃ wo, wo = wr := ⟨_, rfl⟩
      by_cases hlt : k < n
      · obtain ⟨b, off, rfl, hrow⟩ := hcase.resolve_left (by omega)
        obtain ⟨dv, bv, c0, c1, c2, c3, hds, hby⟩ := hrow k hlt
        obtain ⟨hm1, hm2, hm3⟩ := hdm k hlt
        obtain ⟨p, hp⟩ : ∃ p, p = es.getD k ev0 := ⟨_, rfl⟩
        rw [← hp] at c0 c1 hby hds hm1 hm2 hm3
        obtain ⟨da, dc, rfl, hdc, hdn, hdcase⟩ := hds
        obtain ⟨ba, bc, rfl, hbc, _, _⟩ := hby
        obtain ⟨m, hm⟩ : ∃ m, m = p.ds.length := ⟨_, rfl⟩
        obtain ⟨l, hl⟩ : ∃ l, l = p.data.length := ⟨_, rfl⟩
        rw [← hm] at hm1 hm3 c2 hdc hdcase
        rw [← hl] at hm2 c3 hbc
        have HP : Hid (m = p.ds.length ∧ l = p.data.length ∧ p = es.getD k ev0 ∧ (∀ j, j < k → EvSmall (es.getD j ev0))) := ⟨hm, hl, hp, hsm⟩
        clear hm hl hp hsm hrow c0 c1 hdm hcase
        go_wp2
        · go_ret
          exact ⟨false, rfl, rfl, fun h => by simp at h⟩
        · go_ret
          exact ⟨false, rfl, rfl, fun h => by simp at h⟩
        · have hmb : (m : Int) ≤ 1048576 := by assumption
          have htm : (t : Int) + m ≤ 1048576 := by assumption
          go_loopg [3, 5] m (fun g z j wi => wi = wo ∧ ∃ (t' q : Nat), q + g = m ∧ t' ≤ 1048576 ∧ z = .int .i64 t' ∧ j = .int .i64 q ∧ ∀ x, x < q → (p.ds.getD x dg0).val.length ≤ 1048576)
          case atStart => exact ⟨rfl, t + m, 0, by omega, by omega, by go_num, rfl, fun j hj => absurd hj (by omega)⟩
          case round =>
            obtain ⟨hwi, t', q, hq, ht', rfl, rfl, hsmI⟩ := hrel
            obtain rfl := hwi
            by_cases hltI : q < m
            · obtain ⟨b2, off2, rfl, hlo2, hdrow⟩ := hdcase.resolve_left (by omega)
              obtain ⟨vv, g0, g1, hbyI⟩ := hdrow q hltI
              have hvq := hm3 q hltI
              obtain ⟨va, vc, rfl, hvc, _, _⟩ := hbyI
              obtain ⟨u, hu⟩ : ∃ u, u = (p.ds.getD q dg0).val.length := ⟨_, rfl⟩
              rw [← hu] at hvq g1 hvc
              have HI : Hid (u = (p.ds.getD q dg0).val.length ∧ (∀ x, x < q → (p.ds.getD x dg0).val.length ≤ 1048576)) := ⟨hu, hsmI⟩
              clear hu hsmI hdrow hm3 g0 hdcase
              go_wp2
              · go_ret
                exact ⟨false, rfl, rfl, fun h => by simp at h⟩
              · go_ret
                exact ⟨false, rfl, rfl, fun h => by simp at h⟩
              · have hub : (u : Int) ≤ 1048576 := by assumption
                have hut : (t' : Int) + u ≤ 1048576 := by assumption
                go_roundg (gk - 1)
                case measure => omega
                case rel => exact ⟨rfl, t' + u, q + 1, by omega, by omega, by go_num, by go_num, fun x hx => by
                    obtain ⟨hu, hs⟩ := HI.out
                    by_cases e : x = q
                    · subst e; omega
                    · exact hs x (by omega)⟩
            · have hsI : Hid (∀ x, x < q → (p.ds.getD x dg0).val.length ≤ 1048576) := hsmI
              clear hsmI hm3 hdcase
              go_wp2
              · go_ret
                exact ⟨false, rfl, rfl, fun h => by simp at h⟩
              · go_ret
                exact ⟨false, rfl, rfl, fun h => by simp at h⟩
              · have hlb : (l : Int) ≤ 1048576 := by assumption
                have hlt' : (t' : Int) + l ≤ 1048576 := by assumption
                go_roundw
                case rel => exact ⟨trivial, t' + l, k + 1, by omega, by omega, by go_num, by go_num, fun x hx => by
                    obtain ⟨hm, hl, hp, hs⟩ := HP.out
                    by_cases e : x = k
                    · subst e; rw [← hp]; exact ⟨by omega, by omega, fun j hj => hsI.out j (by omega)⟩
                    · exact hs x (by omega)⟩
                case measure => simp [intOf]; omega
      · go_wp2
        go_ret
        obtain rfl : k = n := by omega
        exact ⟨true, rfl, rfl, fun _ => ⟨by omega, fun i hi => hsm i (by omega)⟩⟩
  · go_enter Try.func9, Try.ntmps9
    go_wp2
    go_ret
    exact ⟨false, rfl, rfl, fun h => by simp at h⟩
set_option maxHeartbeats 4000000 in
set_option maxRecDepth 100000 in
theorem evSize_any (a : Option Addr) (c : Nat) (es : List Ev) (lo : Nat) (w : World) (hs : EvsSmall es)
    (hcase : es.length = 0 ∨ ∃ b off, a = some ⟨b, off, none⟩ ∧ EvRow w b off lo es.length es) :
    Calls Try.prog 10 #[.slice a es.length c] w fun e w' => ∃ r : Int, e = .returned (.int .i64 r) ∧ w' = w ∧ 0 ≤ r ∧ r ≤ 1048577 := by
  obtain ⟨hnb, hsm⟩ := hs
  generalize hN : es.length = n at *
  go_enter Try.func10, Try.ntmps10
  go_wp2
  go_loopw [3, 4] (fun z i wr => wr = w ∧ ∃ (t k : Nat), k ≤ n ∧ t ≤ 1048576 ∧ z = .int .i64 t ∧ i = .int .i64 k) (fun _ i _ => n - (intOf i).toNat)
  case atStart => exact ⟨rfl, 0, 0, Nat.zero_le _, by omega, rfl, rfl⟩
  case round =>
    obtain ⟨hwr, t, k, hk, ht, rfl, rfl⟩ := hrel
    obtain rfl := hwr
    obtain ⟨wo, rfl⟩ : ∃ wo, wo = wr := ⟨_, rfl⟩
    by_cases hlt : k < n
    · obtain ⟨b, off, rfl, hrow⟩ := hcase.resolve_left (by omega)
      obtain ⟨dv, bv, c0, c1, c2, c3, hds, hby⟩ := hrow k hlt
      obtain ⟨hm1, hm2, hm3⟩ := hsm k hlt
      obtain ⟨p, hp⟩ : ∃ p, p = es.getD k ev0 := ⟨_, rfl⟩
      rw [← hp] at c0 c1 hby hds hm1 hm2 hm3
      obtain ⟨da, dc, rfl, hdc, hdn, hdcase⟩ := hds
      obtain ⟨ba, bc, rfl, hbc, _, _⟩ := hby
      obtain ⟨m, hm⟩ : ∃ m, m = p.ds.length := ⟨_, rfl⟩
      obtain ⟨l, hl⟩ : ∃ l, l = p.data.length := ⟨_, rfl⟩
      rw [← hm] at hm1 hm3 c2 hdc hdcase
      rw [← hl] at hm2 c3 hbc
      clear hm hl hp hsm hrow c0 c1 hcase
      have hg1 : decide ((1048576 : Int) < (m : Int)) = false := decide_eq_false (by omega)
      go_wp2
      · go_ret
        exact ⟨_, rfl, rfl, by omega, by omega⟩
      · have htm : (t : Int) + (16 + 8 * (m : Int) + l) ≤ 1048576 := by assumption
        go_loopg [3, 6] m (fun g z j wi => wi = wo ∧ ∃ (t' q : Nat), q + g = m ∧ t' ≤ 1048576 ∧ z = .int .i64 t' ∧ j = .int .i64 q)
        case atStart => exact ⟨rfl, t + (16 + 8 * m + l), 0, by omega, by omega, by go_num, rfl⟩
        case round =>
          obtain ⟨hwi, t', q, hq, ht', rfl, rfl⟩ := hrel
          obtain rfl := hwi
          by_cases hltI : q < m
          · obtain ⟨b2, off2, rfl, hlo2, hdrow⟩ := hdcase.resolve_left (by omega)
            obtain ⟨vv, g0, g1, hbyI⟩ := hdrow q hltI
            have hvq := hm3 q hltI
            obtain ⟨va, vc, rfl, hvc, _, _⟩ := hbyI
            obtain ⟨u, hu⟩ : ∃ u, u = (p.ds.getD q dg0).val.length := ⟨_, rfl⟩
            rw [← hu] at hvq g1 hvc
            clear hu hdrow hm3 g0 hdcase
            go_wp2
            · go_ret
              exact ⟨_, rfl, rfl, by omega, by omega⟩
            · have hut : (t' : Int) + u ≤ 1048576 := by assumption
              go_roundg (gk - 1)
              case measure => omega
              case rel => exact ⟨rfl, t' + u, q + 1, by omega, by omega, by go_num, by go_num⟩
          · go_wp2
            go_roundw
            case rel => exact ⟨trivial, t', k + 1, by omega, by omega, by go_num, by go_num⟩
            case measure => simp [intOf]; omega
    · go_wp2
      go_ret
      exact ⟨_, rfl, rfl, by omega, by omega⟩
end Go.Proofs.Qxb6601806a
