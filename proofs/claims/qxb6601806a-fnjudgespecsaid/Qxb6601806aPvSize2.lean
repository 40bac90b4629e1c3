/-
  zzBytes_FnJudgeSpec: what the Go text does.
-/
import Derived.Test.Qxb6601806aProg
import Derived.Test.Qxb6601806aPvBase
import Derived.Deep.LoopGhost
namespace Go.Proofs.Qxb6601806a
open Go.RowKit
set_option maxHeartbeats 8000000 in
set_option maxRecDepth 100000 in
theorem zz23_any (s : ByteArray) (i1 i2 : Int) (a1 a2 a3 a4 : Option Addr) (c1 c2 c3 c4 : Nat) (ps1 ps2 ps3 ps4 : List PV) (w : World) (hsz : s.size ≤ maxLen) (hcap1 : ps1.length ≤ 9223372036854775807) (hcase1 : PVCase w a1 ps1) (hdm1 : ∀ i, i < ps1.length → (ps1.getD i pv0).dig.length ≤ 9223372036854775807) (hcap2 : ps2.length ≤ 9223372036854775807) (hcase2 : PVCase w a2 ps2) (hdm2 : ∀ i, i < ps2.length → (ps2.getD i pv0).dig.length ≤ 9223372036854775807) (hcap3 : ps3.length ≤ 9223372036854775807) (hcase3 : PVCase w a3 ps3) (hdm3 : ∀ i, i < ps3.length → (ps3.getD i pv0).dig.length ≤ 9223372036854775807) (hcap4 : ps4.length ≤ 9223372036854775807) (hcase4 : PVCase w a4 ps4) (hdm4 : ∀ i, i < ps4.length → (ps4.getD i pv0).dig.length ≤ 9223372036854775807) :
    Calls Try.prog 23 #[.string s, .int .u64 i1, .slice a1 ps1.length c1, .slice a2 ps2.length c2, .int .u64 i2, .slice a3 ps3.length c3, .slice a4 ps4.length c4] w fun e w' => ∃ r, e = .returned (.bool r) ∧ w' = w ∧ (r = true → s.size ≤ 1048576 ∧ PVsSmall ps1 ∧ PVsSmall ps2 ∧ PVsSmall ps3 ∧ PVsSmall ps4) := by
  unfold maxLen at hsz
  unfold PVCase at hcase1
  obtain ⟨n1, hN1⟩ : ∃ n, ps1.length = n := ⟨_, rfl⟩
  rw [hN1] at hcap1 hcase1 hdm1 ⊢
  unfold PVCase at hcase2
  obtain ⟨n2, hN2⟩ : ∃ n, ps2.length = n := ⟨_, rfl⟩
  rw [hN2] at hcap2 hcase2 hdm2 ⊢
  unfold PVCase at hcase3
  obtain ⟨n3, hN3⟩ : ∃ n, ps3.length = n := ⟨_, rfl⟩
  rw [hN3] at hcap3 hcase3 hdm3 ⊢
  unfold PVCase at hcase4
  obtain ⟨n4, hN4⟩ : ∃ n, ps4.length = n := ⟨_, rfl⟩
  rw [hN4] at hcap4 hcase4 hdm4 ⊢
  by_cases hms : s.size ≤ 1048576
  · have hms : Hid (s.size ≤ 1048576) := hms
    have hss : s.size ≤ 1048576 := hms.out
    go_enter Try.func23, Try.ntmps23
    go_wp2
    · go_ret
      exact ⟨false, rfl, rfl, fun h => by simp at h⟩
    · go_ret
      exact ⟨false, rfl, rfl, fun h => by simp at h⟩
    · have hnb1 : (n1 : Int) ≤ 1048576 := by assumption
      have htn1 : (s.size : Int) + n1 ≤ 1048576 := by assumption
      go_loopg [15, 16] n1 (fun g z i wr => wr = w ∧ ∃ (t k : Nat), k + g = n1 ∧ t ≤ 1048576 ∧ z = .int .i64 t ∧ i = .int .i64 k ∧ ∀ j, j < k → (ps1.getD j pv0).dig.length ≤ 1048576)
      case atStart => exact ⟨rfl, s.size + n1, 0, by omega, by omega, by go_num, rfl, fun j hj => absurd hj (by omega)⟩
      case round =>
        obtain ⟨hwr, t, k, hk, ht, rfl, rfl, hsm⟩ := hrel
        obtain rfl := hwr.symm
        clear hwr
        by_cases hlt : k < n1
        · obtain ⟨b, off, lo, rfl, hrow⟩ := hcase1.resolve_left (by omega)
          obtain ⟨dv, c0, c1, c2, hby⟩ := hrow k hlt
          have hm1 := hdm1 k hlt
          obtain ⟨p, hp⟩ : ∃ p, p = ps1.getD k pv0 := ⟨_, rfl⟩
          rw [← hp] at hby hm1
          obtain ⟨da, dc, rfl, hdc, _, _⟩ := hby
          obtain ⟨m, hm⟩ : ∃ m, m = p.dig.length := ⟨_, rfl⟩
          rw [← hm] at hm1 c2 hdc
          have HP : Hid (m = p.dig.length ∧ p = ps1.getD k pv0 ∧ (∀ j, j < k → (ps1.getD j pv0).dig.length ≤ 1048576)) := ⟨hm, hp, hsm⟩
          clear hm hp hsm hrow c0 c1 hdm1 hcase1
          go_wp2
          · go_ret
            exact ⟨false, rfl, rfl, fun h => by simp at h⟩
          · go_ret
            exact ⟨false, rfl, rfl, fun h => by simp at h⟩
          · have hmb : (m : Int) ≤ 1048576 := by assumption
            have htm : (t : Int) + m ≤ 1048576 := by assumption
            go_roundg (gk - 1)
            case measure => omega
            case rel => exact ⟨rfl, t + m, k + 1, by omega, by omega, by go_num, by go_num, fun x hx => by
                obtain ⟨hm, hp, hs⟩ := HP.out
                by_cases e : x = k
                · subst e; rw [← hp]; omega
                · exact hs x (by omega)⟩
        · have hs1 : Hid (PVsSmall ps1) := ⟨by omega, fun i hi => hsm i (by omega)⟩
          clear hsm
          go_wp2
          · go_ret
            exact ⟨false, rfl, rfl, fun h => by simp at h⟩
          · go_ret
            exact ⟨false, rfl, rfl, fun h => by simp at h⟩
          · have hnb2 : (n2 : Int) ≤ 1048576 := by assumption
            have htn2 : (t : Int) + n2 ≤ 1048576 := by assumption
            go_loopg [15, 17] n2 (fun g z i wr => wr = w ∧ ∃ (t k : Nat), k + g = n2 ∧ t ≤ 1048576 ∧ z = .int .i64 t ∧ i = .int .i64 k ∧ ∀ j, j < k → (ps2.getD j pv0).dig.length ≤ 1048576)
            case atStart => exact ⟨rfl, t + n2, 0, by omega, by omega, by go_num, rfl, fun j hj => absurd hj (by omega)⟩
            case round =>
              obtain ⟨hwr, t, k, hk, ht, rfl, rfl, hsm⟩ := hrel
              obtain rfl := hwr.symm
              clear hwr
              by_cases hlt : k < n2
              · obtain ⟨b, off, lo, rfl, hrow⟩ := hcase2.resolve_left (by omega)
                obtain ⟨dv, c0, c1, c2, hby⟩ := hrow k hlt
                have hm1 := hdm2 k hlt
                obtain ⟨p, hp⟩ : ∃ p, p = ps2.getD k pv0 := ⟨_, rfl⟩
                rw [← hp] at hby hm1
                obtain ⟨da, dc, rfl, hdc, _, _⟩ := hby
                obtain ⟨m, hm⟩ : ∃ m, m = p.dig.length := ⟨_, rfl⟩
                rw [← hm] at hm1 c2 hdc
                have HP : Hid (m = p.dig.length ∧ p = ps2.getD k pv0 ∧ (∀ j, j < k → (ps2.getD j pv0).dig.length ≤ 1048576)) := ⟨hm, hp, hsm⟩
                clear hm hp hsm hrow c0 c1 hdm2 hcase2
                go_wp2
                · go_ret
                  exact ⟨false, rfl, rfl, fun h => by simp at h⟩
                · go_ret
                  exact ⟨false, rfl, rfl, fun h => by simp at h⟩
                · have hmb : (m : Int) ≤ 1048576 := by assumption
                  have htm : (t : Int) + m ≤ 1048576 := by assumption
                  go_roundg (gk - 1)
                  case measure => omega
                  case rel => exact ⟨rfl, t + m, k + 1, by omega, by omega, by go_num, by go_num, fun x hx => by
                      obtain ⟨hm, hp, hs⟩ := HP.out
                      by_cases e : x = k
                      · subst e; rw [← hp]; omega
                      · exact hs x (by omega)⟩
              · have hs2 : Hid (PVsSmall ps2) := ⟨by omega, fun i hi => hsm i (by omega)⟩
                clear hsm
                go_wp2
                · go_ret
                  exact ⟨false, rfl, rfl, fun h => by simp at h⟩
                · go_ret
                  exact ⟨false, rfl, rfl, fun h => by simp at h⟩
                · have hnb3 : (n3 : Int) ≤ 1048576 := by assumption
                  have htn3 : (t : Int) + n3 ≤ 1048576 := by assumption
                  go_loopg [15, 18] n3 (fun g z i wr => wr = w ∧ ∃ (t k : Nat), k + g = n3 ∧ t ≤ 1048576 ∧ z = .int .i64 t ∧ i = .int .i64 k ∧ ∀ j, j < k → (ps3.getD j pv0).dig.length ≤ 1048576)
                  case atStart => exact ⟨rfl, t + n3, 0, by omega, by omega, by go_num, rfl, fun j hj => absurd hj (by omega)⟩
                  case round =>
                    obtain ⟨hwr, t, k, hk, ht, rfl, rfl, hsm⟩ := hrel
                    obtain rfl := hwr.symm
                    clear hwr
                    by_cases hlt : k < n3
                    · obtain ⟨b, off, lo, rfl, hrow⟩ := hcase3.resolve_left (by omega)
                      obtain ⟨dv, c0, c1, c2, hby⟩ := hrow k hlt
                      have hm1 := hdm3 k hlt
                      obtain ⟨p, hp⟩ : ∃ p, p = ps3.getD k pv0 := ⟨_, rfl⟩
                      rw [← hp] at hby hm1
                      obtain ⟨da, dc, rfl, hdc, _, _⟩ := hby
                      obtain ⟨m, hm⟩ : ∃ m, m = p.dig.length := ⟨_, rfl⟩
                      rw [← hm] at hm1 c2 hdc
                      have HP : Hid (m = p.dig.length ∧ p = ps3.getD k pv0 ∧ (∀ j, j < k → (ps3.getD j pv0).dig.length ≤ 1048576)) := ⟨hm, hp, hsm⟩
                      clear hm hp hsm hrow c0 c1 hdm3 hcase3
                      go_wp2
                      · go_ret
                        exact ⟨false, rfl, rfl, fun h => by simp at h⟩
                      · go_ret
                        exact ⟨false, rfl, rfl, fun h => by simp at h⟩
                      · have hmb : (m : Int) ≤ 1048576 := by assumption
                        have htm : (t : Int) + m ≤ 1048576 := by assumption
                        go_roundg (gk - 1)
                        case measure => omega
                        case rel => exact ⟨rfl, t + m, k + 1, by omega, by omega, by go_num, by go_num, fun x hx => by
                            obtain ⟨hm, hp, hs⟩ := HP.out
                            by_cases e : x = k
                            · subst e; rw [← hp]; omega
                            · exact hs x (by omega)⟩
                    · have hs3 : Hid (PVsSmall ps3) := ⟨by omega, fun i hi => hsm i (by omega)⟩
                      clear hsm
                      go_wp2
                      · go_ret
                        exact ⟨false, rfl, rfl, fun h => by simp at h⟩
                      · go_ret
                        exact ⟨false, rfl, rfl, fun h => by simp at h⟩
                      · have hnb4 : (n4 : Int) ≤ 1048576 := by assumption
                        have htn4 : (t : Int) + n4 ≤ 1048576 := by assumption
                        go_loopg [15, 19] n4 (fun g z i wr => wr = w ∧ ∃ (t k : Nat), k + g = n4 ∧ t ≤ 1048576 ∧ z = .int .i64 t ∧ i = .int .i64 k ∧ ∀ j, j < k → (ps4.getD j pv0).dig.length ≤ 1048576)
                        case atStart => exact ⟨rfl, t + n4, 0, by omega, by omega, by go_num, rfl, fun j hj => absurd hj (by omega)⟩
                        case round =>
                          obtain ⟨hwr, t, k, hk, ht, rfl, rfl, hsm⟩ := hrel
                          obtain rfl := hwr.symm
                          clear hwr
                          by_cases hlt : k < n4
                          · obtain ⟨b, off, lo, rfl, hrow⟩ := hcase4.resolve_left (by omega)
                            obtain ⟨dv, c0, c1, c2, hby⟩ := hrow k hlt
                            have hm1 := hdm4 k hlt
                            obtain ⟨p, hp⟩ : ∃ p, p = ps4.getD k pv0 := ⟨_, rfl⟩
                            rw [← hp] at hby hm1
                            obtain ⟨da, dc, rfl, hdc, _, _⟩ := hby
                            obtain ⟨m, hm⟩ : ∃ m, m = p.dig.length := ⟨_, rfl⟩
                            rw [← hm] at hm1 c2 hdc
                            have HP : Hid (m = p.dig.length ∧ p = ps4.getD k pv0 ∧ (∀ j, j < k → (ps4.getD j pv0).dig.length ≤ 1048576)) := ⟨hm, hp, hsm⟩
                            clear hm hp hsm hrow c0 c1 hdm4 hcase4
                            go_wp2
                            · go_ret
                              exact ⟨false, rfl, rfl, fun h => by simp at h⟩
                            · go_ret
                              exact ⟨false, rfl, rfl, fun h => by simp at h⟩
                            · have hmb : (m : Int) ≤ 1048576 := by assumption
                              have htm : (t : Int) + m ≤ 1048576 := by assumption
                              go_roundg (gk - 1)
                              case measure => omega
                              case rel => exact ⟨rfl, t + m, k + 1, by omega, by omega, by go_num, by go_num, fun x hx => by
                                  obtain ⟨hm, hp, hs⟩ := HP.out
                                  by_cases e : x = k
                                  · subst e; rw [← hp]; omega
                                  · exact hs x (by omega)⟩
                          · have hs4 : Hid (PVsSmall ps4) := ⟨by omega, fun i hi => hsm i (by omega)⟩
                            clear hsm
                            go_wp2
                            go_ret
                            exact ⟨true, rfl, rfl, fun _ => ⟨hms.out, hs1.out, hs2.out, hs3.out, hs4.out⟩⟩
  · go_enter Try.func23, Try.ntmps23
    go_wp2
    go_ret
    exact ⟨false, rfl, rfl, fun h => by simp at h⟩
end Go.Proofs.Qxb6601806a
