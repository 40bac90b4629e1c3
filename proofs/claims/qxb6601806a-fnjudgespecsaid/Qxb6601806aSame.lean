/-
  sameBytes, allSame, isDiffList, sharesList, verdictOf: what the Go texts do.
-/
import Derived.Test.Qxb6601806aJudge
import Derived.Test.Qxb6601806aPvTo
import Derived.LaidEqlPtr
namespace Go.Proofs.Qxb6601806a
open Go.RowKit Go
/-- '&x[0] != &y[0]' where the two are one place. -/
theorem run_neq_ptr_same {P : Program} (w : World) {tp te : TypeId} {j : TypeInfo} (a : Addr) (hp : P.underlying tp = some (.pointer te)) (hte : P.info? te = some j) :
    (binOp .neq tp (.pointer (some a)) (.pointer (some a))).run P w = .ok (.bool false) w := by
  have h : ∀ d : Nat, (Op.equalIn (d + 1) tp (.pointer (some a)) (.pointer (some a))).run P w = .ok true w := fun d => by
    simp [Op.equalIn, run_underlying hp, sizeOf, typeInfo, hte, run_sameAddr_same]
  simp only [binOp]
  simp [Op.equal, Op.maxDepth, h 9999]
theorem getD_eq_of {xs ys : List Int} (hl : xs.length = ys.length) (h : ∀ j, j < xs.length → xs.getD j 0 = ys.getD j 0) : xs = ys := by
  apply List.ext_getElem hl
  intro i h1 h2
  have := h i h1
  simpa [List.getD, h1, h2] using this
set_option maxHeartbeats 2000000 in
theorem sameBytes_any (a1 a2 : Option Addr) (c1 c2 lo1 lo2 : Nat) (xs ys : List Int) (w : World) (hx : xs.length ≤ 1048576) (h1 : IsBytes w lo1 (.slice a1 xs.length c1) xs) (h2 : IsBytes w lo2 (.slice a2 ys.length c2) ys) (_hy : ys.length ≤ 1048576) :
    Calls Try.prog 34 #[.slice a1 xs.length c1, .slice a2 ys.length c2] w fun e w' => e = .returned (.bool (sameB xs ys)) ∧ ∃ m, w' = w.drewN m := by
  obtain ⟨_, _, hv1, _, _, hc1⟩ := h1
  obtain ⟨_, _, hv2, _, _, hc2⟩ := h2
  obtain ⟨rfl, rfl⟩ : a1 = _ ∧ c1 = _ := by simpa using hv1
  obtain ⟨rfl, rfl⟩ : a2 = _ ∧ c2 = _ := by simpa using hv2
  clear hv1 hv2
  by_cases hl : xs.length = ys.length
  · have HS : Hid ((∀ j, j < xs.length → xs.getD j 0 = ys.getD j 0) → sameB xs ys = true) := fun h => by simp [sameB, getD_eq_of hl h]
    have HN : Hid (∀ j, j < xs.length → xs.getD j 0 ≠ ys.getD j 0 → sameB xs ys = false) := fun j _ h => by
      simp only [sameB, decide_eq_false_iff_not]
      intro e
      exact h (by rw [e])
    obtain ⟨r, hr⟩ : ∃ r, r = sameB xs ys := ⟨_, rfl⟩
    have HR : Hid (r = sameB xs ys) := hr
    rw [← hr]
    clear hr
    rw [← hl] at hc2 ⊢
    obtain ⟨n, hn⟩ : ∃ n, n = xs.length := ⟨_, rfl⟩
    have HNL : Hid (n = xs.length) := hn
    rw [← hn] at hx hc1 hc2 ⊢
    clear hn hl _hy
    go_enter Try.func34, Try.ntmps34
    go_wp2
    go_loopg [5] n (fun g i wr => ∃ d k : Nat, wr = w.drewN d ∧ k + g = n ∧ i = .int .i64 k ∧ ∀ j, j < k → xs.getD j 0 = ys.getD j 0)
    case atStart => exact ⟨0, 0, rfl, by omega, rfl, fun j hj => absurd hj (by omega)⟩
    case round =>
      obtain ⟨d, k, rfl, hk, rfl, hall⟩ := hrel
      by_cases hlt : k < n
      · obtain ⟨b1, o1, rfl, _, hcell1⟩ := hc1.resolve_left (by omega)
        obtain ⟨b2, o2, rfl, _, hcell2⟩ := hc2.resolve_left (by omega)
        have u1 := hcell1 k hlt
        have u2 := hcell2 k hlt
        obtain ⟨x, hxx⟩ : ∃ x, x = xs.getD k 0 := ⟨_, rfl⟩
        obtain ⟨y, hyy⟩ : ∃ y, y = ys.getD k 0 := ⟨_, rfl⟩
        rw [← hxx] at u1
        rw [← hyy] at u2
        have HA : Hid (x = xs.getD k 0 ∧ y = ys.getD k 0 ∧ ∀ j, j < k → xs.getD j 0 = ys.getD j 0) := ⟨hxx, hyy, hall⟩
        clear hxx hyy hall hcell1 hcell2
        have hkI : (k : Int) < (n : Int) := by omega
        by_cases hxy : x = y
        · have hb : (x != y) = false := by simp [hxy]
          go_wp2
          go_quiet (fail)
          go_wp2
          go_roundg (gk - 1)
          case measure => omega
          case rel =>
            obtain ⟨e1, e2, hall⟩ := HA.out
            refine ⟨_, k + 1, rfl, by omega, by go_num, fun j hj => ?_⟩
            by_cases e : j = k
            · subst e; omega
            · exact hall j (by omega)
        · have hb : (x != y) = true := by simp [hxy]
          go_wp2
          go_quiet (fail)
          go_wp2
          go_ret
          obtain ⟨e1, e2, hall⟩ := HA.out
          have hf := HN.out k (by have := HNL.out; omega) (by omega)
          rw [HR.out, hf]
          exact ⟨rfl, _, World.drewN_drewN _ _ _⟩
      · go_wp2
        go_ret
        have ht := HS.out (fun j hj => hall j (by have := HNL.out; omega))
        rw [HR.out, ht]
        exact ⟨rfl, _, rfl⟩
  · have hs : sameB xs ys = false := by
      simp only [sameB, decide_eq_false_iff_not]
      intro e
      exact hl (by rw [e])
    rw [hs]
    have hb : ((xs.length : Int) != (ys.length : Int)) = true := by simp; omega
    clear hs
    go_enter Try.func34, Try.ntmps34
    go_wp2
    go_ret
    exact ⟨rfl, 0, rfl⟩

theorem diffs_eq_nil {ps qs : List PV} {n : Nat} (h : ∀ j, j < n → sameB (ps.getD j pv0).dig (qs.getD j pv0).dig = true) : diffs ps qs n = [] := by
  induction n with
  | zero => rfl
  | succ n ih => rw [diffs_yes (h n (by omega)), ih (fun j hj => h j (by omega))]
theorem diffs_prefix (ps qs : List PV) {k n : Nat} (h : k ≤ n) : ∃ r, diffs ps qs n = diffs ps qs k ++ r := by
  induction n with
  | zero => exact ⟨[], by obtain rfl : k = 0 := by omega
                          simp⟩
  | succ n ih =>
    by_cases e : k = n + 1
    · subst e; exact ⟨[], by simp⟩
    · obtain ⟨r, hr⟩ := ih (by omega)
      cases hs : sameB (ps.getD n pv0).dig (qs.getD n pv0).dig with
      | true => exact ⟨r, by rw [diffs_yes hs, hr]⟩
      | false => exact ⟨r ++ [(ps.getD n pv0).pcr], by rw [diffs_no hs, hr, List.append_assoc]⟩
theorem diffs_ne_nil {ps qs : List PV} {k n : Nat} (h : k < n) (hs : sameB (ps.getD k pv0).dig (qs.getD k pv0).dig = false) : diffs ps qs n ≠ [] := by
  obtain ⟨r, hr⟩ := diffs_prefix ps qs (show k + 1 ≤ n by omega)
  rw [hr, diffs_no hs]
  simp
theorem diffs_at {ps qs : List PV} {k n : Nat} (h : k < n) (hs : sameB (ps.getD k pv0).dig (qs.getD k pv0).dig = false) :
    (diffs ps qs k).length < (diffs ps qs n).length ∧ (diffs ps qs n).getD (diffs ps qs k).length 0 = (ps.getD k pv0).pcr := by
  obtain ⟨r, hr⟩ := diffs_prefix ps qs (show k + 1 ≤ n by omega)
  rw [hr, diffs_no hs]
  constructor
  · simp
  · simp [List.getD]
/-- Every digest agrees. -/
def allB (ps qs : List PV) : Bool := (diffs ps qs ps.length).isEmpty
set_option maxHeartbeats 2000000 in
theorem allSame_any (a1 a2 : Option Addr) (c1 c2 : Nat) (ps qs : List PV) (w : World) (hs1 : PVsSmall ps) (hs2 : PVsSmall qs) (hle : ps.length ≤ qs.length) (h1 : PVCase w a1 ps) (h2 : PVCase w a2 qs) :
    Calls Try.prog 28 #[.slice a1 ps.length c1, .slice a2 qs.length c2] w fun e w' => e = .returned (.bool (allB ps qs)) ∧ ∃ m, w' = w.drewN m := by
  have hd1 := hs1.2
  have hd2 := hs2.2
  have hn1 := hs1.1
  have hn2 := hs2.1
  clear hs1 hs2
  have HY : Hid (∀ n, n = ps.length → (∀ j, j < n → sameB (ps.getD j pv0).dig (qs.getD j pv0).dig = true) → allB ps qs = true) := by
    rintro n rfl h
    unfold allB
    rw [diffs_eq_nil h]
    rfl
  have HN : Hid (∀ n, n = ps.length → ∀ j, j < n → sameB (ps.getD j pv0).dig (qs.getD j pv0).dig = false → allB ps qs = false) := by
    rintro n rfl j hj h
    unfold allB
    simpa using diffs_ne_nil hj h
  obtain ⟨r, hr⟩ : ∃ r, r = allB ps qs := ⟨_, rfl⟩
  have HR : Hid (r = allB ps qs) := hr
  rw [← hr]
  clear hr
  unfold PVCase at h1 h2
  obtain ⟨n, hN⟩ : ∃ n, ps.length = n := ⟨_, rfl⟩
  obtain ⟨n2, hN2⟩ : ∃ n, qs.length = n := ⟨_, rfl⟩
  have HL : Hid (n = ps.length) := hN.symm
  rw [hN] at hn1 hle h1 hd1 ⊢
  rw [hN2] at hn2 hle h2 hd2 ⊢
  clear hN hN2
  go_enter Try.func28, Try.ntmps28
  go_wp2
  go_loopg [5] n (fun g i wr => ∃ d k : Nat, wr = w.drewN d ∧ k + g = n ∧ i = .int .i64 k ∧ ∀ j, j < k → sameB (ps.getD j pv0).dig (qs.getD j pv0).dig = true)
  case atStart => exact ⟨0, 0, rfl, by omega, rfl, fun j hj => absurd hj (by omega)⟩
  case round =>
    obtain ⟨d, k, rfl, hk, rfl, hall⟩ := hrel
    by_cases hlt : k < n
    · obtain ⟨b1, o1, lo1, rfl, hrow1⟩ := h1.resolve_left (by omega)
      obtain ⟨b2, o2, lo2, rfl, hrow2⟩ := h2.resolve_left (by omega)
      obtain ⟨dv1, s0, s1, s2, hby1⟩ := hrow1 k hlt
      obtain ⟨dv2, t0, t1, t2, hby2⟩ := hrow2 k (by omega)
      have l1 := hd1 k hlt
      have l2 := hd2 k (by omega)
      obtain ⟨xs, hxs⟩ : ∃ xs, xs = (ps.getD k pv0).dig := ⟨_, rfl⟩
      obtain ⟨ys, hys⟩ : ∃ ys, ys = (qs.getD k pv0).dig := ⟨_, rfl⟩
      rw [← hxs] at hby1 l1
      rw [← hys] at hby2 l2
      obtain ⟨da1, dc1, rfl, _⟩ := id hby1
      obtain ⟨da2, dc2, rfl, _⟩ := id hby2
      have HA : Hid (xs = (ps.getD k pv0).dig ∧ ys = (qs.getD k pv0).dig ∧ ∀ j, j < k → sameB (ps.getD j pv0).dig (qs.getD j pv0).dig = true) := ⟨hxs, hys, hall⟩
      clear hxs hys hall hrow1 hrow2 s0 s1 t0 t1 hd1 hd2
      have hkI : (k : Int) < (n : Int) := by omega
      have hkI2 : (k : Int) < (n2 : Int) := by omega
      replace s2 : (w.drewN d).cell? ⟨b1, o1 + k * 3 + 2, none⟩ = some (.slice da1 xs.length dc1) := s2
      replace t2 : (w.drewN d).cell? ⟨b2, o2 + k * 3 + 2, none⟩ = some (.slice da2 ys.length dc2) := t2
      replace hby1 : IsBytes (w.drewN d) lo1 (.slice da1 xs.length dc1) xs := hby1
      replace hby2 : IsBytes (w.drewN d) lo2 (.slice da2 ys.length dc2) ys := hby2
      obtain ⟨wd, hwd⟩ : ∃ wd, wd = w.drewN d := ⟨_, rfl⟩
      rw [← hwd] at s2 t2 hby1 hby2 ⊢
      have HW : Hid (wd = w.drewN d) := hwd
      clear hwd
      go_wp2
      go_quiet ((go_at_call 34; refine Calls.quiet_of (sameBytes_any _ _ _ _ lo1 lo2 xs ys _ l1 ?_ ?_ l2); (exact hby1); (exact hby2)))
      cases hsame : sameB xs ys with
      | true =>
        go_wp2
        go_roundg (gk - 1)
        case measure => omega
        case rel =>
          obtain ⟨e1, e2, hall⟩ := HA.out
          refine ⟨_, k + 1, by rw [HW.out]; exact World.drewN_drewN _ _ _, by omega, by go_num, fun j hj => ?_⟩
          by_cases e : j = k
          · subst e; rw [← e1, ← e2]; exact hsame
          · exact hall j (by omega)
      | false =>
        go_wp2
        go_ret
        obtain ⟨e1, e2, hall⟩ := HA.out
        have hf := HN.out n HL.out k hlt (by rw [← e1, ← e2]; exact hsame)
        rw [HR.out, hf, HW.out]
        exact ⟨rfl, _, World.drewN_drewN _ _ _⟩
    · go_wp2
      go_ret
      obtain rfl : k = n := by omega
      have ht := HY.out k HL.out hall
      rw [HR.out, ht]
      exact ⟨rfl, _, rfl⟩
set_option maxHeartbeats 4000000 in
set_option maxRecDepth 100000 in
theorem isDiffList_any (g rc : Nat) (a1 a2 : Option Addr) (c1 c2 : Nat) (ps qs : List PV) (w : World) (hs1 : PVsSmall ps) (hs2 : PVsSmall qs) (hle : ps.length ≤ qs.length) (h1 : PVCase w a1 ps) (h2 : PVCase w a2 qs)
    (hres : ∀ i, i < (diffs ps qs ps.length).length → w.cell? ⟨g, i, none⟩ = some (.int .u32 ((diffs ps qs ps.length).getD i 0))) :
    Calls Try.prog 26 #[.slice (some ⟨g, 0, none⟩) (diffs ps qs ps.length).length rc, .slice a1 ps.length c1, .slice a2 qs.length c2] w fun e w' => e = .returned (.bool true) ∧ ∃ m, w' = w.drewN m := by
  have hd1 := hs1.2
  have hd2 := hs2.2
  have hn1 := hs1.1
  have hn2 := hs2.1
  have hDle := diffs_le ps qs ps.length
  clear hs1 hs2
  unfold PVCase at h1 h2
  obtain ⟨n, hN⟩ : ∃ n, ps.length = n := ⟨_, rfl⟩
  obtain ⟨n2, hN2⟩ : ∃ n, qs.length = n := ⟨_, rfl⟩
  rw [hN] at hn1 hle h1 hd1 hDle hres ⊢
  rw [hN2] at hn2 hle h2 hd2 ⊢
  clear hN hN2
  obtain ⟨D, hD⟩ : ∃ D, D = (diffs ps qs n).length := ⟨_, rfl⟩
  rw [← hD] at hDle hres ⊢
  have HD : Hid (D = (diffs ps qs n).length) := hD
  clear hD
  go_enter Try.func26, Try.ntmps26
  go_wp2
  go_loopg [7, 8] n (fun gg jv i wr => ∃ d k j : Nat, wr = w.drewN d ∧ k + gg = n ∧ i = .int .i64 k ∧ jv = .int .i64 j ∧ j = (diffs ps qs k).length ∧ j ≤ D)
  case atStart => exact ⟨0, 0, 0, rfl, by omega, rfl, rfl, rfl, by omega⟩
  case round =>
    obtain ⟨d, k, j, rfl, hk, rfl, rfl, hj, hjD⟩ := hrel
    by_cases hlt : k < n
    · obtain ⟨b1, o1, lo1, rfl, hrow1⟩ := h1.resolve_left (by omega)
      obtain ⟨b2, o2, lo2, rfl, hrow2⟩ := h2.resolve_left (by omega)
      obtain ⟨dv1, s0, s1, s2, hby1⟩ := hrow1 k hlt
      obtain ⟨dv2, t0, t1, t2, hby2⟩ := hrow2 k (by omega)
      have l1 := hd1 k hlt
      have l2 := hd2 k (by omega)
      have hat := @diffs_at ps qs k n hlt
      have hyes := @diffs_yes ps qs k
      have hno := @diffs_no ps qs k
      obtain ⟨p, hp⟩ : ∃ p, p = ps.getD k pv0 := ⟨_, rfl⟩
      obtain ⟨q, hq⟩ : ∃ q, q = qs.getD k pv0 := ⟨_, rfl⟩
      rw [← hp] at s1 hby1 l1 hat hyes hno
      rw [← hq] at hby2 l2 hat hyes hno
      obtain ⟨da1, dc1, rfl, _⟩ := id hby1
      obtain ⟨da2, dc2, rfl, _⟩ := id hby2
      have HA : Hid (j = (diffs ps qs k).length ∧ (sameB p.dig q.dig = true → diffs ps qs (k + 1) = diffs ps qs k) ∧ (sameB p.dig q.dig = false → diffs ps qs (k + 1) = diffs ps qs k ++ [p.pcr])) := ⟨hj, hyes, hno⟩
      have hatj : sameB p.dig q.dig = false → j < D ∧ w.cell? ⟨g, j, none⟩ = some (.int .u32 p.pcr) := fun h => by
        obtain ⟨x1, x2⟩ := hat h
        rw [← hj] at x1 x2
        rw [← HD.out] at x1
        exact ⟨x1, by rw [hres j x1, x2]⟩
      have HT : Hid (sameB p.dig q.dig = false → j < D ∧ w.cell? ⟨g, j, none⟩ = some (.int .u32 p.pcr)) := hatj
      clear hp hq hj hyes hno hat hatj hrow1 hrow2 s0 t0 t1 hd1 hd2 hres
      have hkI : (k : Int) < (n : Int) := by omega
      have hkI2 : (k : Int) < (n2 : Int) := by omega
      replace s1 : (w.drewN d).cell? ⟨b1, o1 + k * 3 + 1, none⟩ = some (.int .u32 p.pcr) := s1
      replace s2 : (w.drewN d).cell? ⟨b1, o1 + k * 3 + 2, none⟩ = some (.slice da1 p.dig.length dc1) := s2
      replace t2 : (w.drewN d).cell? ⟨b2, o2 + k * 3 + 2, none⟩ = some (.slice da2 q.dig.length dc2) := t2
      replace hby1 : IsBytes (w.drewN d) lo1 (.slice da1 p.dig.length dc1) p.dig := hby1
      replace hby2 : IsBytes (w.drewN d) lo2 (.slice da2 q.dig.length dc2) q.dig := hby2
      replace HT : Hid (sameB p.dig q.dig = false → j < D ∧ (w.drewN d).cell? ⟨g, j, none⟩ = some (.int .u32 p.pcr)) := HT
      obtain ⟨wd, hwd⟩ : ∃ wd, wd = w.drewN d := ⟨_, rfl⟩
      rw [← hwd] at s1 s2 t2 hby1 hby2 HT ⊢
      have HW : Hid (wd = w.drewN d) := hwd
      clear hwd
      cases hsame : sameB p.dig q.dig with
      | true =>
        go_wp2
        go_quiet ((go_at_call 34; refine Calls.quiet_of (sameBytes_any _ _ _ _ lo1 lo2 p.dig q.dig _ l1 ?_ ?_ l2); (exact hby1); (exact hby2)))
        go_wp2
        go_roundg (gk - 1)
        case measure => omega
        case rel =>
          obtain ⟨e1, e2, e3⟩ := HA.out
          exact ⟨_, k + 1, j, by rw [HW.out]; exact World.drewN_drewN _ _ _, by omega, by go_num, rfl, by rw [e2 hsame]; exact e1, hjD⟩
      | false =>
        obtain ⟨hjlt, hcj⟩ := HT.out hsame
        have hjI : (j : Int) < (D : Int) := by omega
        have hjd : decide ((D : Int) ≤ (j : Int)) = false := decide_eq_false (by omega)
        have hjd' : decide (D ≤ j) = false := decide_eq_false (by omega)
        go_wp2
        go_quiet ((go_at_call 34; refine Calls.quiet_of (sameBytes_any _ _ _ _ lo1 lo2 p.dig q.dig _ l1 ?_ ?_ l2); (exact hby1); (exact hby2)))
        go_wp2
        go_quiet (fail)
        go_wp2
        go_roundg (gk - 1)
        case measure => omega
        case rel =>
          obtain ⟨e1, e2, e3⟩ := HA.out
          exact ⟨_, k + 1, j + 1, by rw [HW.out]; exact World.drewN_drewN _ _ _, by omega, by go_num, by go_num, by rw [e3 hsame, List.length_append, ← e1]; rfl, by omega⟩
    · obtain rfl : k = n := by omega
      obtain rfl : j = D := by rw [hj, HD.out]
      clear hj hres
      go_wp2
      go_ret
      exact ⟨by simp, _, rfl⟩
set_option maxHeartbeats 2000000 in
theorem sharesList_any (a : Option Addr) (n c : Nat) (w : World) (h : n = 0 ∨ ∃ b off, a = some ⟨b, off, none⟩) (hn : n ≤ 1048576) :
    Calls Try.prog 25 #[.slice a n c, .slice a n c] w fun e w' => e = .returned (.bool true) ∧ ∃ m, w' = w.drewN m := by
  have q59 : ∀ (w : World) (a : Option Addr) (n c n' c' : Nat), (binOp .eql 59 (.slice a n c) (.slice none n' c')).run Try.prog w = .ok (.bool a.isNone) w := fun w a n c n' c' => Lib.run_eql_slice_nil w _ _ a n c n' c' Try.underlying59
  have q48 : ∀ (w : World) (a : Option Addr) (n c n' c' : Nat), (binOp .eql 48 (.slice a n c) (.slice none n' c')).run Try.prog w = .ok (.bool a.isNone) w := fun w a n c n' c' => Lib.run_eql_slice_nil w _ _ a n c n' c' Try.underlying48
  obtain ⟨j78, hj78, _⟩ := info_parts Try.info78
  have qp : ∀ (w : World) (a : Addr), (binOp .neq 79 (.pointer (some a)) (.pointer (some a))).run Try.prog w = .ok (.bool false) w := fun w a => run_neq_ptr_same w a Try.underlying79 hj78
  clear hj78
  rcases Nat.eq_zero_or_pos n with hz | hpos
  · subst hz
    go_enter Try.func25, Try.ntmps25
    go_wp2
    go_quiet (fail)
    go_wp2
    go_ret
    exact ⟨rfl, _, rfl⟩
  · obtain ⟨b, off, rfl⟩ := h.resolve_left (by omega)
    have hg : (0 : Int) < (n : Int) := by omega
    go_enter Try.func25, Try.ntmps25
    go_wp2
    go_quiet (fail)
    go_wp2
    go_ret
    exact ⟨rfl, _, rfl⟩
def verI (b : Bool) : Int := if b then 0 else 1
set_option maxHeartbeats 800000 in
theorem verdictOf_any (b : Bool) (w : World) : Calls Try.prog 27 #[.bool b] w fun e w' => e = .returned (.int .i64 (verI b)) ∧ w' = w := by
  cases b with
  | true =>
    go_enter Try.func27, Try.ntmps27
    go_wp2
    go_ret
    exact ⟨rfl, rfl⟩
  | false =>
    go_enter Try.func27, Try.ntmps27
    go_wp2
    go_ret
    exact ⟨rfl, rfl⟩
end Go.Proofs.Qxb6601806a
