/-
  zzBytes_FnJudgeSelf and pvSize: what the Go texts do.
-/
import Derived.Test.Qxb6601806aProg
import Derived.Test.Qxb6601806aPvBase
import Derived.Deep.LoopGhost
namespace Go.Proofs.Qxb6601806a
open Go.RowKit
set_option maxHeartbeats 8000000 in
set_option maxRecDepth 100000 in
theorem zz29_any (s : ByteArray) (i1 i2 : Int) (a1 a2 : Option Addr) (c1 c2 : Nat) (ps1 ps2 : List PV) (w : World) (hsz : s.size ≤ maxLen) (hcap1 : ps1.length ≤ 9223372036854775807) (hcase1 : PVCase w a1 ps1) (hdm1 : ∀ i, i < ps1.length → (ps1.getD i pv0).dig.length ≤ 9223372036854775807) (hcap2 : ps2.length ≤ 9223372036854775807) (hcase2 : PVCase w a2 ps2) (hdm2 : ∀ i, i < ps2.length → (ps2.getD i pv0).dig.length ≤ 9223372036854775807) :
    Calls Try.prog 29 #[.string s, .int .u64 i1, .slice a1 ps1.length c1, .slice a2 ps2.length c2, .int .u64 i2] w fun e w' => ∃ r, e = .returned (.bool r) ∧ w' = w ∧ (r = true → s.size ≤ 1048576 ∧ PVsSmall ps1 ∧ PVsSmall ps2) := by
  unfold maxLen at hsz
  unfold PVCase at hcase1
  obtain ⟨n1, hN1⟩ : ∃ n, ps1.length = n := ⟨_, rfl⟩
  rw [hN1] at hcap1 hcase1 hdm1 ⊢
  unfold PVCase at hcase2
  obtain ⟨n2, hN2⟩ : ∃ n, ps2.length = n := ⟨_, rfl⟩
  rw [hN2] at hcap2 hcase2 hdm2 ⊢
  by_cases hms : s.size ≤ 1048576
  · have hms : Hid (s.size ≤ 1048576) := hms
    have hss : s.size ≤ 1048576 := hms.out
    go_enter Try.func29, Try.ntmps29
    go_wp2
    · go_ret
      exact ⟨false, rfl, rfl, fun h => by simp at h⟩
    · go_ret
      exact ⟨false, rfl, rfl, fun h => by simp at h⟩
    · have hnb1 : (n1 : Int) ≤ 1048576 := by assumption
      have htn1 : (s.size : Int) + n1 ≤ 1048576 := by assumption
      go_loopg [11, 12] n1 (fun g z i wr => wr = w ∧ ∃ (t k : Nat), k + g = n1 ∧ t ≤ 1048576 ∧ z = .int .i64 t ∧ i = .int .i64 k ∧ ∀ j, j < k → (ps1.getD j pv0).dig.length ≤ 1048576)
      case atStart => exact ⟨rfl, s.size + n1, 0, by omega, by omega, by go_num, rfl, fun j hj => absurd hj (by omega)⟩
      case round =>
        obtain ⟨hwr, t, k, hk, ht, rfl, rfl, hsm⟩ := hrel
        obtain rfl := hwr.symm
        clear hwr
        by_cases hlt : k < n1
        · obtain ⟨b, off, lo, rfl, hrow⟩ := hcase1.resolve_left (by omega)
          obtain ⟨dv, c0, c1, c2, hby⟩ := hrow k hlt
          have hm1 := hdm1 k hlt
          obtain ⟨p, hp⟩ : ∃ p, p = ps1.getD k pv0 := ⟨_, rfl⟩
          rw [← hp] at hby hm1
          obtain ⟨da, dc, rfl, hdc, _, _⟩ := hby
          obtain ⟨m, hm⟩ : ∃ m, m = p.dig.length := ⟨_, rfl⟩
          rw [← hm] at hm1 c2 hdc
          have HP : Hid (m = p.dig.length ∧ p = ps1.getD k pv0 ∧ (∀ j, j < k → (ps1.getD j pv0).dig.length ≤ 1048576)) := ⟨hm, hp, hsm⟩
          clear hm hp hsm hrow c0 c1 hdm1 hcase1
          go_wp2
          · go_ret
            exact ⟨false, rfl, rfl, fun h => by simp at h⟩
          · go_ret
            exact ⟨false, rfl, rfl, fun h => by simp at h⟩
          · have hmb : (m : Int) ≤ 1048576 := by assumption
            have htm : (t : Int) + m ≤ 1048576 := by assumption
            go_roundg (gk - 1)
            case measure => omega
            case rel => exact ⟨rfl, t + m, k + 1, by omega, by omega, by go_num, by go_num, fun x hx => by
                obtain ⟨hm, hp, hs⟩ := HP.out
                by_cases e : x = k
                · subst e; rw [← hp]; omega
                · exact hs x (by omega)⟩
        · have hs1 : Hid (PVsSmall ps1) := ⟨by omega, fun i hi => hsm i (by omega)⟩
          clear hsm
          go_wp2
          · go_ret
            exact ⟨false, rfl, rfl, fun h => by simp at h⟩
          · go_ret
            exact ⟨false, rfl, rfl, fun h => by simp at h⟩
          · have hnb2 : (n2 : Int) ≤ 1048576 := by assumption
            have htn2 : (t : Int) + n2 ≤ 1048576 := by assumption
            go_loopg [11, 13] n2 (fun g z i wr => wr = w ∧ ∃ (t k : Nat), k + g = n2 ∧ t ≤ 1048576 ∧ z = .int .i64 t ∧ i = .int .i64 k ∧ ∀ j, j < k → (ps2.getD j pv0).dig.length ≤ 1048576)
            case atStart => exact ⟨rfl, t + n2, 0, by omega, by omega, by go_num, rfl, fun j hj => absurd hj (by omega)⟩
            case round =>
              obtain ⟨hwr, t, k, hk, ht, rfl, rfl, hsm⟩ := hrel
              obtain rfl := hwr.symm
              clear hwr
              by_cases hlt : k < n2
              · obtain ⟨b, off, lo, rfl, hrow⟩ := hcase2.resolve_left (by omega)
                obtain ⟨dv, c0, c1, c2, hby⟩ := hrow k hlt
                have hm1 := hdm2 k hlt
                obtain ⟨p, hp⟩ : ∃ p, p = ps2.getD k pv0 := ⟨_, rfl⟩
                rw [← hp] at hby hm1
                obtain ⟨da, dc, rfl, hdc, _, _⟩ := hby
                obtain ⟨m, hm⟩ : ∃ m, m = p.dig.length := ⟨_, rfl⟩
                rw [← hm] at hm1 c2 hdc
                have HP : Hid (m = p.dig.length ∧ p = ps2.getD k pv0 ∧ (∀ j, j < k → (ps2.getD j pv0).dig.length ≤ 1048576)) := ⟨hm, hp, hsm⟩
                clear hm hp hsm hrow c0 c1 hdm2 hcase2
                go_wp2
                · go_ret
                  exact ⟨false, rfl, rfl, fun h => by simp at h⟩
                · go_ret
                  exact ⟨false, rfl, rfl, fun h => by simp at h⟩
                · have hmb : (m : Int) ≤ 1048576 := by assumption
                  have htm : (t : Int) + m ≤ 1048576 := by assumption
                  go_roundg (gk - 1)
                  case measure => omega
                  case rel => exact ⟨rfl, t + m, k + 1, by omega, by omega, by go_num, by go_num, fun x hx => by
                      obtain ⟨hm, hp, hs⟩ := HP.out
                      by_cases e : x = k
                      · subst e; rw [← hp]; omega
                      · exact hs x (by omega)⟩
              · have hs2 : Hid (PVsSmall ps2) := ⟨by omega, fun i hi => hsm i (by omega)⟩
                clear hsm
                go_wp2
                go_ret
                exact ⟨true, rfl, rfl, fun _ => ⟨hms.out, hs1.out, hs2.out⟩⟩
  · go_enter Try.func29, Try.ntmps29
    go_wp2
    go_ret
    exact ⟨false, rfl, rfl, fun h => by simp at h⟩
set_option maxHeartbeats 4000000 in
set_option maxRecDepth 100000 in
theorem pvSize_any (a : Option Addr) (c : Nat) (ps : List PV) (w : World) (hs : PVsSmall ps) (hcase : PVCase w a ps) :
    Calls Try.prog 17 #[.slice a ps.length c] w fun e w' => ∃ r : Int, e = .returned (.int .i64 r) ∧ w' = w ∧ 0 ≤ r ∧ r ≤ 1048577 := by
  obtain ⟨hnb, hsm⟩ := hs
  unfold PVCase at hcase
  obtain ⟨n, hN⟩ : ∃ n, ps.length = n := ⟨_, rfl⟩
  rw [hN] at hnb hsm hcase ⊢
  go_enter Try.func17, Try.ntmps17
  go_wp2
  go_loopg [3, 4] n (fun g z i wr => wr = w ∧ ∃ (t k : Nat), k + g = n ∧ t ≤ 1048576 ∧ z = .int .i64 t ∧ i = .int .i64 k)
  case atStart => exact ⟨rfl, 0, 0, by omega, by omega, rfl, rfl⟩
  case round =>
    obtain ⟨hwr, t, k, hk, ht, rfl, rfl⟩ := hrel
    obtain rfl := hwr.symm
    clear hwr
    by_cases hlt : k < n
    · obtain ⟨b, off, lo, rfl, hrow⟩ := hcase.resolve_left (by omega)
      obtain ⟨dv, c0, c1, c2, hby⟩ := hrow k hlt
      have hm1 := hsm k hlt
      obtain ⟨da, dc, rfl, hdc, _, _⟩ := hby
      obtain ⟨m, hm⟩ : ∃ m, m = (ps.getD k pv0).dig.length := ⟨_, rfl⟩
      rw [← hm] at hm1 c2 hdc
      clear hm hrow c0 c1 hcase hsm
      go_wp2
      · go_ret
        exact ⟨_, rfl, rfl, by omega, by omega⟩
      · have htm : (t : Int) + (16 + (m : Int)) ≤ 1048576 := by assumption
        go_roundg (gk - 1)
        case measure => omega
        case rel => exact ⟨rfl, t + (16 + m), k + 1, by omega, by omega, by go_num, by go_num⟩
    · go_wp2
      go_ret
      exact ⟨_, rfl, rfl, by omega, by omega⟩
end Go.Proofs.Qxb6601806a
