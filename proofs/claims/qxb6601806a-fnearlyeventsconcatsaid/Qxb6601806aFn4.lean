/-
  FnEarlyEventsConcat: the Go text answers true.
-/
import Derived.Test.Qxb6601806aFn3
import Derived.Test.Qxb6601806aEvSize2
import Derived.Test.Qxb6601806aEarlyTop
import Derived.Deep.DeepCutAuto
namespace Go.Proofs.Qxb6601806a
open Go.RowKit Go
theorem IsEvs.top {w : World} {lo lo' : Nat} {a : Option Addr} {n c : Nat} {es : List Ev} (h : IsEvs w lo lo' (.slice a n c) es) : es.length = 0 ∨ ∃ b off, a = some ⟨b, off, none⟩ ∧ EvTop w b off es.length es := by
  obtain ⟨_, _, h⟩ := h.weak
  rcases h with h | ⟨b, off, h1, h2⟩
  · exact .inl h
  · exact .inr ⟨b, off, h1, h2.top⟩
set_option maxHeartbeats 8000000 in
set_option maxRecDepth 100000 in
theorem fn4_any (v1 v2 : Value) (xs ys : List Ev) (w : World) (h1 : IsEvs w 0 0 v1 xs) (h2 : IsEvs w 0 0 v2 ys) (hf1 : EvsFit xs) (hf2 : EvsFit ys) :
    Calls Try.prog 4 #[v1, v2] w fun e w' => e = .returned (.bool true) ∧ Below w.heap.size w w' := by
  have h1' := h1
  have h2' := h2
  obtain ⟨a1, c1, rfl, hc1, _, _⟩ := h1'
  obtain ⟨a2, c2, rfl, hc2, _, _⟩ := h2'
  obtain ⟨_, _, hcase1⟩ := h1.weak
  obtain ⟨_, _, hcase2⟩ := h2.weak
  have q26 : ∀ (w : World) (a : Option Addr) (n c n' c' : Nat), (binOp .eql 26 (.slice a n c) (.slice none n' c')).run Try.prog w = .ok (.bool a.isNone) w := fun w a n c n' c' => Lib.run_eql_slice_nil w _ _ a n c n' c' Try.underlying26
  obtain ⟨j35, hj35, _⟩ := info_parts Try.info35
  have qp : ∀ (w : World) (a : Addr), (binOp .neq 29 (.pointer (some a)) (.pointer (some a))).run Try.prog w = .ok (.bool false) w := fun w a => run_neq_ptr_same w a Try.underlying29 hj35
  clear hj35
  have hzz := zz15_any a1 a2 c1 c2 xs ys 0 0 w hf1.1 hcase1 hf1.2 hf2.1 hcase2 hf2.2
  have hnf1 := hf1.1
  have hnf2 := hf2.1
  go_enter Try.func4, Try.ntmps4
  go_wp2_with fail
  refine hzz.mono ?_
  rintro e w1 ⟨r, rfl, hw1, hr⟩
  obtain rfl := hw1.symm
  clear hzz hw1
  cases r with
  | false =>
    go_wp2
    go_ret
    exact ⟨rfl, Below.refl _ _⟩
  | true =>
    obtain ⟨hs1, hs2⟩ := hr rfl
    clear hr
    have hnb1 := hs1.1
    have hnb2 := hs2.1
    go_wp2_with fail
    refine (evSize_any a1 c1 xs 0 _ hs1 hcase1).mono ?_
    rintro e w1 ⟨r1, rfl, hw1, hr10, hr11⟩
    obtain rfl := hw1.symm
    clear hw1
    go_wp2_with fail
    refine (evSize_any a2 c2 ys 0 _ hs2 hcase2).mono ?_
    rintro e w1 ⟨r2, rfl, hw1, hr20, hr21⟩
    obtain rfl := hw1.symm
    clear hw1
    by_cases hbig : (1048576 : Int) < r1 + r2
    · go_wp2
      go_ret
      exact ⟨rfl, Below.refl _ _⟩
    · go_wp2_with fail
      refine (cloneEvents_any _ xs 0 0 _ h1 hs1).mono ?_
      rintro e w1 ⟨x1, d1, rfl, hb1, hx1⟩
      clear hcase1 hcase2 h1
      replace h2 := h2.below hb1
      go_wp2_with fail
      refine (cloneEvents_any _ ys 0 0 _ h2 hs2).mono ?_
      rintro e w2 ⟨x2, d2, rfl, hb2, hx2⟩
      clear h2
      replace hx1 := hx1.below hb2
      go_wp2_with fail
      refine (toEvents_any _ xs _ _ _ hx1 hs1).mono ?_
      rintro e w3 ⟨y1, e1, rfl, hb3, hy1⟩
      replace hx1 := hx1.below hb3
      replace hx2 := hx2.below hb3
      go_wp2_with fail
      refine (toEvents_any _ ys _ _ _ hx2 hs2).mono ?_
      rintro e w4 ⟨y2, e2, rfl, hb4, hy2⟩
      replace hx1 := hx1.below hb4
      replace hx2 := hx2.below hb4
      replace hy1 := hy1.below hb4
      have hB4 : Below w.heap.size w w4 := hb1.trans ((hb2.trans ((hb3.trans (hb4.mono hb3.size)).mono hb2.size)).mono hb1.size)
      clear hb1 hb2 hb3 hb4
      have hx1t := hx1.top
      have hy1t := hy1.top
      have hy2t := hy2.top
      obtain ⟨_, he1, _⟩ := hy1.weak
      obtain ⟨_, he2, _⟩ := hy2.weak
      clear hx1 hx2 hy1 hy2
      have hmk := run_make_wide (P := Try.prog) 26 35 _ 4 56 Try.underlying26 Try.info35 .i64 .i64 (xs.length + ys.length) (by omega) (by omega)
      have hW0 := Row.made w4 (Value.agg #[.int .u32 0, .int .u32 0, .slice none 0 0, .slice none 0 0]).cells ((xs.length + ys.length) * 4) 35
      have hB0 : Below w4.heap.size w4 (w4.alloc (Obj.cells (madeCells (Value.agg #[.int .u32 0, .int .u32 0, .slice none 0 0, .slice none 0 0]).cells ((xs.length + ys.length) * 4)) 35)) := (Below.refl _ _).alloc (Nat.le_refl _) _
      obtain ⟨es, hes⟩ : ∃ es, es = xs ++ ys := ⟨_, rfl⟩
      have HES : Hid (es = xs ++ ys) := hes
      clear hes
      obtain ⟨n1, hN1⟩ : ∃ n, xs.length = n := ⟨_, rfl⟩
      obtain ⟨n2, hN2⟩ : ∃ n, ys.length = n := ⟨_, rfl⟩
      rw [hN1] at hc1 hnf1 hnb1 hx1t hy1t he1 hmk hW0 hB0
      rw [hN2] at hc2 hnf2 hnb2 hy2t he2 hmk hW0 hB0
      rw [hN1, hN2]
      have HN : Hid (xs.length = n1 ∧ ys.length = n2) := ⟨hN1, hN2⟩
      clear hN1 hN2 hs1 hs2 hf1 hf2
      rw [Int.natCast_add] at hmk
      clear hc1 hc2 hnf1 hnf2
      go_wp2
      clear hmk
      go_loopg [8] n1 (fun g i wr => ∃ k : Nat, k + g = n1 ∧ i = .int .i64 k ∧ Below w4.heap.size w4 wr ∧ Row wr w4.heap.size 35 ((n1 + n2) * 4) ∧ EvTop wr w4.heap.size 0 k es)
      case atStart => exact ⟨0, by omega, rfl, hB0, hW0, fun i hi => absurd hi (by omega)⟩
      case round =>
        obtain ⟨k, hk, rfl, hbel, hown, htop⟩ := hrel
        by_cases hlt : k < n1
        · obtain ⟨b, off, rfl, hrow⟩ := hy1t.resolve_left (by omega)
          obtain ⟨da, dn, dc, ba, bn, bc, t0, t1, t2, t3⟩ := hrow k hlt
          obtain ⟨p, hp⟩ : ∃ p, p = xs.getD k ev0 := ⟨_, rfl⟩
          rw [← hp] at t0 t1
          have hp' : p = es.getD k ev0 := by
            rw [HES.out, hp]
            rw [getD_left xs ys (by have := HN.out.1; omega)]
          have hbw : b < w4.heap.size := lt_of_cell t0
          have u0 := below_cell hbel t0
          have u1 := below_cell hbel t1
          have u2 := below_cell hbel t2
          have u3 := below_cell hbel t3
          obtain ⟨z0, f0⟩ := hown.cell (i := k * 4) (by omega)
          obtain ⟨z1, f1⟩ := hown.cell (i := k * 4 + 1) (by omega)
          obtain ⟨z2, f2⟩ := hown.cell (i := k * 4 + 2) (by omega)
          obtain ⟨z3, f3⟩ := hown.cell (i := k * 4 + 3) (by omega)
          have g0 := hown.frozen (k * 4)
          have g1 := hown.frozen (k * 4 + 1)
          have g2 := hown.frozen (k * 4 + 2)
          have g3 := hown.frozen (k * 4 + 3)
          have HK : Hid (p = es.getD k ev0 ∧ Row wr w4.heap.size 35 ((n1 + n2) * 4) ∧ EvTop wr w4.heap.size 0 k es) := ⟨hp', hown, htop⟩
          clear hp hp' hown htop hrow t0 t1 t2 t3
          go_wp2
          obtain ⟨hp, hown, htop⟩ := HK.out
          have R := top_step (da := da) (dn := dn) (dc := dc) (ba := ba) (bn := bn) (bc := bc) htop hown (by omega) hp
          go_roundg (gk - 1)
          case measure => omega
          case rel => exact ⟨k + 1, by omega, by go_num, (((hbel.setCell (by simp) _).setCell (by simp) _).setCell (by simp) _).setCell (by simp) _, R.1, R.2⟩
        · obtain rfl : k = n1 := by omega
          clear hW0 hB0
          go_wp2
          go_loopg [9] n2 (fun g i wr => ∃ q : Nat, q + g = n2 ∧ i = .int .i64 q ∧ Below w4.heap.size w4 wr ∧ Row wr w4.heap.size 35 ((k + n2) * 4) ∧ EvTop wr w4.heap.size 0 (k + q) es)
          case atStart => exact ⟨0, by omega, rfl, hbel, hown, htop⟩
          case round =>
            obtain ⟨q, hq, rfl, hbel, hown, htop⟩ := hrel
            by_cases hlt : q < n2
            · obtain ⟨b, off, rfl, hrow⟩ := hy2t.resolve_left (by omega)
              obtain ⟨da, dn, dc, ba, bn, bc, t0, t1, t2, t3⟩ := hrow q hlt
              obtain ⟨p, hp⟩ : ∃ p, p = ys.getD q ev0 := ⟨_, rfl⟩
              rw [← hp] at t0 t1
              have hp' : p = es.getD (k + q) ev0 := by
                rw [HES.out, hp]
                rw [← HN.out.1, getD_right xs ys q]
              have hbw : b < w4.heap.size := lt_of_cell t0
              have u0 := below_cell hbel t0
              have u1 := below_cell hbel t1
              have u2 := below_cell hbel t2
              have u3 := below_cell hbel t3
              obtain ⟨z0, f0⟩ := hown.cell (i := (k + q) * 4) (by omega)
              obtain ⟨z1, f1⟩ := hown.cell (i := (k + q) * 4 + 1) (by omega)
              obtain ⟨z2, f2⟩ := hown.cell (i := (k + q) * 4 + 2) (by omega)
              obtain ⟨z3, f3⟩ := hown.cell (i := (k + q) * 4 + 3) (by omega)
              have g0 := hown.frozen ((k + q) * 4)
              have g1 := hown.frozen ((k + q) * 4 + 1)
              have g2 := hown.frozen ((k + q) * 4 + 2)
              have g3 := hown.frozen ((k + q) * 4 + 3)
              have HK : Hid (p = es.getD (k + q) ev0 ∧ Row wr w4.heap.size 35 ((k + n2) * 4) ∧ EvTop wr w4.heap.size 0 (k + q) es) := ⟨hp', hown, htop⟩
              clear hp hp' hown htop hrow t0 t1 t2 t3
              go_wp2
              obtain ⟨hp, hown, htop⟩ := HK.out
              have R := top_step (da := da) (dn := dn) (dc := dc) (ba := ba) (bn := bn) (bc := bc) htop hown (by omega) hp
              go_roundg (gk - 1)
              case measure => omega
              case rel => exact ⟨q + 1, by omega, by go_num, (((hbel.setCell (by simp) _).setCell (by simp) _).setCell (by simp) _).setCell (by simp) _, R.1, R.2⟩
            · obtain rfl : q = n2 := by omega
              have hlen : es.length = k + q := by rw [HES.out, List.length_append, HN.out.1, HN.out.2]
              have HL : Hid (es.length = k + q) := hlen
              clear hlen
              have hB := hB4.trans (hbel.mono hB4.size)
              have tx1 : k = 0 ∨ ∃ b off, x1 = some ⟨b, off, none⟩ ∧ EvTop wr b off k xs := by
                rcases hx1t with h | ⟨b, off, h1, h2⟩
                · exact .inl h
                · exact .inr ⟨b, off, h1, h2.below hbel⟩
              have ty1 : k = 0 ∨ ∃ b off, y1 = some ⟨b, off, none⟩ ∧ EvTop wr b off k xs := by
                rcases hy1t with h | ⟨b, off, h1, h2⟩
                · exact .inl h
                · exact .inr ⟨b, off, h1, h2.below hbel⟩
              have ty2 : q = 0 ∨ ∃ b off, y2 = some ⟨b, off, none⟩ ∧ EvTop wr b off q ys := by
                rcases hy2t with h | ⟨b, off, h1, h2⟩
                · exact .inl h
                · exact .inr ⟨b, off, h1, h2.below hbel⟩
              clear hx1t hy1t hy2t
              go_wp2_with fail
              refine (zzEarly_len y1 e1 xs k _ HN.out.1 (by omega) he1 ty1).mono ?_
              rintro e w5 ⟨hb5, m1, hm1, rfl, hE1⟩
              have HE1 : Hid (Early xs m1) := hE1
              clear hE1
              replace ty2 : q = 0 ∨ ∃ b off, y2 = some ⟨b, off, none⟩ ∧ EvTop w5 b off q ys := by
                rcases ty2 with h | ⟨b, off, h1, h2⟩
                · exact .inl h
                · exact .inr ⟨b, off, h1, h2.below hb5⟩
              replace tx1 : k = 0 ∨ ∃ b off, x1 = some ⟨b, off, none⟩ ∧ EvTop w5 b off k xs := by
                rcases tx1 with h | ⟨b, off, h1, h2⟩
                · exact .inl h
                · exact .inr ⟨b, off, h1, h2.below hb5⟩
              replace htop := htop.below hb5
              replace hB := hB.trans (hb5.mono hB.size)
              go_wp2_with fail
              refine (zzEarly_len y2 e2 ys q _ HN.out.2 (by omega) he2 ty2).mono ?_
              rintro e w6 ⟨hb6, m2, hm2, rfl, hE2⟩
              have HE2 : Hid (Early ys m2) := hE2
              clear hE2
              replace tx1 : k = 0 ∨ ∃ b off, x1 = some ⟨b, off, none⟩ ∧ EvTop w6 b off k xs := by
                rcases tx1 with h | ⟨b, off, h1, h2⟩
                · exact .inl h
                · exact .inr ⟨b, off, h1, h2.below hb6⟩
              replace htop := htop.below hb6
              replace hB := hB.trans (hb6.mono hB.size)
              go_wp2_with fail
              refine (zzEarly_len _ _ es (k + q) _ HL.out (by omega) (by omega) (.inr ⟨_, _, rfl, htop⟩)).mono ?_
              rintro e w7 ⟨hb7, m3, hm3, rfl, hE3⟩
              have HE3 : Hid (Early (xs ++ ys) m3) := by rw [← HES.out]; exact hE3
              clear hE3
              replace tx1 : k = 0 ∨ ∃ b off, x1 = some ⟨b, off, none⟩ ∧ EvTop w7 b off k xs := by
                rcases tx1 with h | ⟨b, off, h1, h2⟩
                · exact .inl h
                · exact .inr ⟨b, off, h1, h2.below hb7⟩
              replace hB := hB.trans (hb7.mono hB.size)
              clear htop hown hb5 hb6 hb7 hbel hB4
              have o1 : decide (k < m1) = false := decide_eq_false (by omega)
              have o2 : decide (q < m2) = false := decide_eq_false (by omega)
              have o3 : decide (k + q < m3) = false := decide_eq_false (by omega)
              go_wp2
              go_cut [127] (fun s wx => s = .bool false ∧ Below w7.heap.size w7 wx)
              case first =>
                rcases Nat.eq_zero_or_pos m1 with hz | hpos
                · subst hz
                  go_quiet (fail)
                  go_wp2
                  go_meet
                  exact ⟨rfl, below_drewN (Below.refl _ _) _⟩
                · obtain ⟨b, off, rfl, _⟩ := ty1.resolve_left (by omega)
                  have hg : (0 : Int) < (m1 : Int) := by omega
                  have hg2 : (0 : Int) < (k : Int) := by omega
                  have hg3 : 0 < k := by omega
                  go_quiet (fail)
                  go_wp2
                  go_meet
                  exact ⟨rfl, below_drewN (Below.refl _ _) _⟩
              obtain ⟨w8, rfl⟩ : ∃ w8, w8 = wc := ⟨_, rfl⟩
              obtain ⟨rfl, hb8⟩ := hcut
              go_wp2
              go_cut [137] (fun s wx => s = .bool false ∧ Below w8.heap.size w8 wx)
              case first =>
                rcases Nat.eq_zero_or_pos m2 with hz | hpos
                · subst hz
                  go_quiet (fail)
                  go_wp2
                  go_meet
                  exact ⟨rfl, below_drewN (Below.refl _ _) _⟩
                · obtain ⟨b, off, rfl, _⟩ := ty2.resolve_left (by omega)
                  have hg : (0 : Int) < (m2 : Int) := by omega
                  have hg2 : (0 : Int) < (q : Int) := by omega
                  have hg3 : 0 < q := by omega
                  go_quiet (fail)
                  go_wp2
                  go_meet
                  exact ⟨rfl, below_drewN (Below.refl _ _) _⟩
              obtain ⟨w9, rfl⟩ : ∃ w9, w9 = wc := ⟨_, rfl⟩
              obtain ⟨rfl, hb9⟩ := hcut
              go_wp2
              go_cut [147] (fun s wx => s = .bool false ∧ Below w9.heap.size w9 wx)
              case first =>
                rcases Nat.eq_zero_or_pos m3 with hz | hpos
                · subst hz
                  go_quiet (fail)
                  go_wp2
                  go_meet
                  exact ⟨rfl, below_drewN (Below.refl _ _) _⟩
                · have hg : (0 : Int) < (m3 : Int) := by omega
                  have hg2 : (0 : Int) < (k : Int) + (q : Int) := by omega
                  have hg3 : 0 < k + q := by omega
                  go_quiet (fail)
                  go_wp2
                  go_meet
                  exact ⟨rfl, below_drewN (Below.refl _ _) _⟩
              obtain ⟨wd, rfl⟩ : ∃ wd, wd = wc := ⟨_, rfl⟩
              obtain ⟨rfl, hbd⟩ := hcut
              have hbb : Below w7.heap.size w7 wd := hb8.trans ((hb9.trans (hbd.mono hb9.size)).mono hb8.size)
              replace hB := hB.trans (hbb.mono hB.size)
              clear ty1 ty2 o1 o2 o3 hb8 hb9 hbd
              rcases Nat.eq_zero_or_pos m1 with hz | hpos
              · subst hz
                have hq := early_miss HE1.out HE2.out HE3.out (by omega)
                have hk0 : k = 0 := by have := HN.out.1; omega
                have hm3e : m3 = m2 := by have := HN.out.1; omega
                subst hk0
                subst hm3e
                clear hq tx1 hbb
                go_wp2
                go_ret
                exact ⟨by simp, hB⟩
              · obtain ⟨b, off, rfl, hrow⟩ := tx1.resolve_left (by omega)
                obtain ⟨da, dn, dc, ba, bn, bc, t0, t1, t2, t3⟩ := hrow (m1 - 1) (by omega)
                obtain ⟨p, hp⟩ : ∃ p, p = xs.getD (m1 - 1) ev0 := ⟨_, rfl⟩
                rw [← hp] at t0 t1
                have u0 := below_cell hbb t0
                have u1 := below_cell hbb t1
                have u2 := below_cell hbb t2
                have u3 := below_cell hbb t3
                have hld : LdAt xs (m1 - 1) = ldB p.ty p.pcr := by unfold LdAt; rw [hp]
                clear hrow t0 t1 t2 t3 hp tx1 hbb
                have hg : (0 : Int) < (m1 : Int) := by omega
                cases hl : ldB p.ty p.pcr with
                | true =>
                  have hm3e : m3 = m1 := early_hit HE1.out HE3.out hpos (by rw [hld]; exact hl)
                  subst hm3e
                  clear hld
                  go_wp2_with (go_at_call 14; refine (isLoader_any _ _ _ _ _ _ _ _ _).mono ?_; rintro e we ⟨rfl, hbe⟩)
                  go_ret
                  exact ⟨by simp, hB.trans (hbe.mono hB.size)⟩
                | false =>
                  have hq := early_miss HE1.out HE2.out HE3.out (by rw [hld, hl]; simp)
                  rw [HN.out.1] at hq
                  obtain ⟨rfl, rfl⟩ := hq
                  clear hld
                  go_wp2_with (go_at_call 14; refine (isLoader_any _ _ _ _ _ _ _ _ _).mono ?_; rintro e we ⟨rfl, hbe⟩)
                  go_ret
                  exact ⟨by simp, hB.trans (hbe.mono hB.size)⟩
end Go.Proofs.Qxb6601806a
