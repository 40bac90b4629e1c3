/-
  zzBytes_FnEarlyEventsConcat: what the Go text does.
-/
import Derived.Test.Qxb6601806aEvSize
namespace Go.Proofs.Qxb6601806a
open Go.RowKit
set_option maxHeartbeats 8000000 in
set_option maxRecDepth 100000 in
theorem zz15_any (a1 a2 : Option Addr) (c1 c2 : Nat) (es1 es2 : List Ev) (lo1 lo2 : Nat) (w : World) (hcap1 : es1.length ≤ 9223372036854775807)
    (hcase1 : es1.length = 0 ∨ ∃ b off, a1 = some ⟨b, off, none⟩ ∧ EvRow w b off lo1 es1.length es1)
    (hdm1 : ∀ i, i < es1.length → (es1.getD i ev0).ds.length ≤ 9223372036854775807 ∧ (es1.getD i ev0).data.length ≤ 9223372036854775807 ∧ ∀ j, j < (es1.getD i ev0).ds.length → ((es1.getD i ev0).ds.getD j dg0).val.length ≤ 9223372036854775807) (hcap2 : es2.length ≤ 9223372036854775807)
    (hcase2 : es2.length = 0 ∨ ∃ b off, a2 = some ⟨b, off, none⟩ ∧ EvRow w b off lo2 es2.length es2)
    (hdm2 : ∀ i, i < es2.length → (es2.getD i ev0).ds.length ≤ 9223372036854775807 ∧ (es2.getD i ev0).data.length ≤ 9223372036854775807 ∧ ∀ j, j < (es2.getD i ev0).ds.length → ((es2.getD i ev0).ds.getD j dg0).val.length ≤ 9223372036854775807) :
    Calls Try.prog 15 #[.slice a1 es1.length c1, .slice a2 es2.length c2] w fun e w' => ∃ r, e = .returned (.bool r) ∧ w' = w ∧ (r = true → EvsSmall es1 ∧ EvsSmall es2) := by
  obtain ⟨n1, hN1⟩ : ∃ n1, es1.length = n1 := ⟨_, rfl⟩
  obtain ⟨n2, hN2⟩ : ∃ n2, es2.length = n2 := ⟨_, rfl⟩
  rw [hN1] at hcap1 hcase1 hdm1 ⊢
  rw [hN2] at hcap2 hcase2 hdm2 ⊢
  by_cases hnb : n1 ≤ 1048576
  · go_enter Try.func15, Try.ntmps15
    go_wp2
    go_loopg [5, 6] n1 (fun g z i wr => wr = w ∧ ∃ (t k : Nat), k + g = n1 ∧ t ≤ 1048576 ∧ z = .int .i64 t ∧ i = .int .i64 k ∧ ∀ j, j < k → EvSmall (es1.getD j ev0))
    case atStart => exact ⟨rfl, n1, 0, by omega, by omega, by go_num, rfl, fun j hj => absurd hj (by omega)⟩
    case round =>
      obtain ⟨hwr, t, k, hk, ht, rfl, rfl, hsm⟩ := hrel
      obtain rfl := hwr.symm
      clear hwr
      by_cases hlt : k < n1
      · obtain ⟨b, off, rfl, hrow⟩ := hcase1.resolve_left (by omega)
        obtain ⟨dv, bv, c0, c1, c2, c3, hds, hby⟩ := hrow k hlt
        obtain ⟨hm1, hm2, hm3⟩ := hdm1 k hlt
        obtain ⟨p, hp⟩ : ∃ p, p = es1.getD k ev0 := ⟨_, rfl⟩
        rw [← hp] at c0 c1 hby hds hm1 hm2 hm3
        obtain ⟨da, dc, rfl, hdc, hdn, hdcase⟩ := hds
        obtain ⟨ba, bc, rfl, hbc, _, _⟩ := hby
        obtain ⟨m, hm⟩ : ∃ m, m = p.ds.length := ⟨_, rfl⟩
        obtain ⟨l, hl⟩ : ∃ l, l = p.data.length := ⟨_, rfl⟩
        rw [← hm] at hm1 hm3 c2 hdc hdcase
        rw [← hl] at hm2 c3 hbc
        have HP : Hid (m = p.ds.length ∧ l = p.data.length ∧ p = es1.getD k ev0 ∧ (∀ j, j < k → EvSmall (es1.getD j ev0))) := ⟨hm, hl, hp, hsm⟩
        clear hm hl hp hsm hrow c0 c1 hdm1 hcase1
        go_wp2
        · go_ret
          exact ⟨false, rfl, rfl, fun h => by simp at h⟩
        · go_ret
          exact ⟨false, rfl, rfl, fun h => by simp at h⟩
        · have hmb : (m : Int) ≤ 1048576 := by assumption
          have htm : (t : Int) + m ≤ 1048576 := by assumption
          obtain ⟨g0, hg0⟩ : ∃ g0, gk = g0 := ⟨_, rfl⟩
          go_loopg [5, 7] m (fun g z j wi => wi = w ∧ ∃ (t' q : Nat), q + g = m ∧ t' ≤ 1048576 ∧ z = .int .i64 t' ∧ j = .int .i64 q ∧ ∀ x, x < q → (p.ds.getD x dg0).val.length ≤ 1048576)
          case atStart => exact ⟨rfl, t + m, 0, by omega, by omega, by go_num, rfl, fun j hj => absurd hj (by omega)⟩
          case round =>
            obtain ⟨hwi, t', q, hq, ht', rfl, rfl, hsmI⟩ := hrel
            obtain rfl := hwi.symm
            clear hwi
            by_cases hltI : q < m
            · obtain ⟨b2, off2, rfl, hlo2, hdrow⟩ := hdcase.resolve_left (by omega)
              obtain ⟨vv, g0, g1, hbyI⟩ := hdrow q hltI
              have hvq := hm3 q hltI
              obtain ⟨va, vc, rfl, hvc, _, _⟩ := hbyI
              obtain ⟨u, hu⟩ : ∃ u, u = (p.ds.getD q dg0).val.length := ⟨_, rfl⟩
              rw [← hu] at hvq g1 hvc
              have HI : Hid (u = (p.ds.getD q dg0).val.length ∧ (∀ x, x < q → (p.ds.getD x dg0).val.length ≤ 1048576)) := ⟨hu, hsmI⟩
              clear hu hsmI hdrow hm3 g0 hdcase
              go_wp2
              · go_ret
                exact ⟨false, rfl, rfl, fun h => by simp at h⟩
              · go_ret
                exact ⟨false, rfl, rfl, fun h => by simp at h⟩
              · have hub : (u : Int) ≤ 1048576 := by assumption
                have hut : (t' : Int) + u ≤ 1048576 := by assumption
                go_roundg (gk - 1)
                case measure => omega
                case rel => exact ⟨rfl, t' + u, q + 1, by omega, by omega, by go_num, by go_num, fun x hx => by
                    obtain ⟨hu, hs⟩ := HI.out
                    by_cases e : x = q
                    · subst e; omega
                    · exact hs x (by omega)⟩
            · have hsI : Hid (∀ x, x < q → (p.ds.getD x dg0).val.length ≤ 1048576) := hsmI
              clear hsmI hm3 hdcase
              go_wp2
              · go_ret
                exact ⟨false, rfl, rfl, fun h => by simp at h⟩
              · go_ret
                exact ⟨false, rfl, rfl, fun h => by simp at h⟩
              · have hlb : (l : Int) ≤ 1048576 := by assumption
                have hlt' : (t' : Int) + l ≤ 1048576 := by assumption
                go_roundg (n1 - (k + 1))
                case measure => omega
                case rel => exact ⟨rfl, t' + l, k + 1, by omega, by omega, by go_num, by go_num, fun x hx => by
                    obtain ⟨hm, hl, hp, hs⟩ := HP.out
                    by_cases e : x = k
                    · subst e; rw [← hp]; exact ⟨by omega, by omega, fun j hj => hsI.out j (by omega)⟩
                    · exact hs x (by omega)⟩
      · have hs1 : Hid (EvsSmall es1) := ⟨by omega, fun i hi => hsm i (by omega)⟩
        clear hsm
        go_wp2
        · go_ret
          exact ⟨false, rfl, rfl, fun h => by simp at h⟩
        · go_ret
          exact ⟨false, rfl, rfl, fun h => by simp at h⟩
        · have hnb2 : (n2 : Int) ≤ 1048576 := by assumption
          have htn2 : (t : Int) + n2 ≤ 1048576 := by assumption
          go_loopg [5, 8] n2 (fun g z i wr => wr = w ∧ ∃ (t k : Nat), k + g = n2 ∧ t ≤ 1048576 ∧ z = .int .i64 t ∧ i = .int .i64 k ∧ ∀ j, j < k → EvSmall (es2.getD j ev0))
          case atStart => exact ⟨rfl, t + n2, 0, by omega, by omega, by go_num, rfl, fun j hj => absurd hj (by omega)⟩
          case round =>
            obtain ⟨hwr, t, k, hk, ht, rfl, rfl, hsm⟩ := hrel
            obtain rfl := hwr.symm
            clear hwr
            by_cases hlt : k < n2
            · obtain ⟨b, off, rfl, hrow⟩ := hcase2.resolve_left (by omega)
              obtain ⟨dv, bv, c0, c1, c2, c3, hds, hby⟩ := hrow k hlt
              obtain ⟨hm1, hm2, hm3⟩ := hdm2 k hlt
              obtain ⟨p, hp⟩ : ∃ p, p = es2.getD k ev0 := ⟨_, rfl⟩
              rw [← hp] at c0 c1 hby hds hm1 hm2 hm3
              obtain ⟨da, dc, rfl, hdc, hdn, hdcase⟩ := hds
              obtain ⟨ba, bc, rfl, hbc, _, _⟩ := hby
              obtain ⟨m, hm⟩ : ∃ m, m = p.ds.length := ⟨_, rfl⟩
              obtain ⟨l, hl⟩ : ∃ l, l = p.data.length := ⟨_, rfl⟩
              rw [← hm] at hm1 hm3 c2 hdc hdcase
              rw [← hl] at hm2 c3 hbc
              have HP : Hid (m = p.ds.length ∧ l = p.data.length ∧ p = es2.getD k ev0 ∧ (∀ j, j < k → EvSmall (es2.getD j ev0))) := ⟨hm, hl, hp, hsm⟩
              clear hm hl hp hsm hrow c0 c1 hdm2 hcase2
              go_wp2
              · go_ret
                exact ⟨false, rfl, rfl, fun h => by simp at h⟩
              · go_ret
                exact ⟨false, rfl, rfl, fun h => by simp at h⟩
              · have hmb : (m : Int) ≤ 1048576 := by assumption
                have htm : (t : Int) + m ≤ 1048576 := by assumption
                obtain ⟨g0, hg0⟩ : ∃ g0, gk = g0 := ⟨_, rfl⟩
                go_loopg [5, 9] m (fun g z j wi => wi = w ∧ ∃ (t' q : Nat), q + g = m ∧ t' ≤ 1048576 ∧ z = .int .i64 t' ∧ j = .int .i64 q ∧ ∀ x, x < q → (p.ds.getD x dg0).val.length ≤ 1048576)
                case atStart => exact ⟨rfl, t + m, 0, by omega, by omega, by go_num, rfl, fun j hj => absurd hj (by omega)⟩
                case round =>
                  obtain ⟨hwi, t', q, hq, ht', rfl, rfl, hsmI⟩ := hrel
                  obtain rfl := hwi.symm
                  clear hwi
                  by_cases hltI : q < m
                  · obtain ⟨b2, off2, rfl, hlo2, hdrow⟩ := hdcase.resolve_left (by omega)
                    obtain ⟨vv, g0, g1, hbyI⟩ := hdrow q hltI
                    have hvq := hm3 q hltI
                    obtain ⟨va, vc, rfl, hvc, _, _⟩ := hbyI
                    obtain ⟨u, hu⟩ : ∃ u, u = (p.ds.getD q dg0).val.length := ⟨_, rfl⟩
                    rw [← hu] at hvq g1 hvc
                    have HI : Hid (u = (p.ds.getD q dg0).val.length ∧ (∀ x, x < q → (p.ds.getD x dg0).val.length ≤ 1048576)) := ⟨hu, hsmI⟩
                    clear hu hsmI hdrow hm3 g0 hdcase
                    go_wp2
                    · go_ret
                      exact ⟨false, rfl, rfl, fun h => by simp at h⟩
                    · go_ret
                      exact ⟨false, rfl, rfl, fun h => by simp at h⟩
                    · have hub : (u : Int) ≤ 1048576 := by assumption
                      have hut : (t' : Int) + u ≤ 1048576 := by assumption
                      go_roundg (gk - 1)
                      case measure => omega
                      case rel => exact ⟨rfl, t' + u, q + 1, by omega, by omega, by go_num, by go_num, fun x hx => by
                          obtain ⟨hu, hs⟩ := HI.out
                          by_cases e : x = q
                          · subst e; omega
                          · exact hs x (by omega)⟩
                  · have hsI : Hid (∀ x, x < q → (p.ds.getD x dg0).val.length ≤ 1048576) := hsmI
                    clear hsmI hm3 hdcase
                    go_wp2
                    · go_ret
                      exact ⟨false, rfl, rfl, fun h => by simp at h⟩
                    · go_ret
                      exact ⟨false, rfl, rfl, fun h => by simp at h⟩
                    · have hlb : (l : Int) ≤ 1048576 := by assumption
                      have hlt' : (t' : Int) + l ≤ 1048576 := by assumption
                      go_roundg (n2 - (k + 1))
                      case measure => omega
                      case rel => exact ⟨rfl, t' + l, k + 1, by omega, by omega, by go_num, by go_num, fun x hx => by
                          obtain ⟨hm, hl, hp, hs⟩ := HP.out
                          by_cases e : x = k
                          · subst e; rw [← hp]; exact ⟨by omega, by omega, fun j hj => hsI.out j (by omega)⟩
                          · exact hs x (by omega)⟩
            · have hs2 : Hid (EvsSmall es2) := ⟨by omega, fun i hi => hsm i (by omega)⟩
              clear hsm
              go_wp2
              go_ret
              exact ⟨true, rfl, rfl, fun _ => ⟨hs1.out, hs2.out⟩⟩
  · go_enter Try.func15, Try.ntmps15
    go_wp2
    go_ret
    exact ⟨false, rfl, rfl, fun h => by simp at h⟩
end Go.Proofs.Qxb6601806a
