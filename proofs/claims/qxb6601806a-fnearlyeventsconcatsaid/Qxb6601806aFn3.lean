/-
  FnEarlyEventsSpec: the Go text answers true.
-/
import Derived.Test.Qxb6601806aEvClone
import Derived.Test.Qxb6601806aEvTo
import Derived.Test.Qxb6601806aEvSize
import Derived.Test.Qxb6601806aEarly
import Derived.LaidEqlPtr
import Derived.WalkSmall
import Derived.BigQuiet
import Derived.Deep.QuietTactic
namespace Go.Proofs.Qxb6601806a
open Go.RowKit Go
theorem IsEvs.weak {w : World} {lo lo' : Nat} {a : Option Addr} {n c : Nat} {es : List Ev} (h : IsEvs w lo lo' (.slice a n c) es) : n = es.length ∧ es.length ≤ c ∧ (es.length = 0 ∨ ∃ b off, a = some ⟨b, off, none⟩ ∧ EvRow w b off lo' es.length es) := by
  obtain ⟨a', c', hv, hc, hn, hcase⟩ := h
  obtain ⟨rfl, rfl, rfl⟩ : a = a' ∧ n = es.length ∧ c = c' := by simpa using hv
  refine ⟨rfl, hc, ?_⟩
  rcases hcase with h0 | ⟨b, off, h1, _, h2⟩
  · exact .inl h0
  · exact .inr ⟨b, off, h1, h2⟩
/-- '&x[0] != &y[0]' where the two are one place. -/
theorem run_neq_ptr_same {P : Program} (w : World) {tp te : TypeId} {j : TypeInfo} (a : Addr) (hp : P.underlying tp = some (.pointer te)) (hte : P.info? te = some j) :
    (binOp .neq tp (.pointer (some a)) (.pointer (some a))).run P w = .ok (.bool false) w := by
  have h : ∀ d : Nat, (Op.equalIn (d + 1) tp (.pointer (some a)) (.pointer (some a))).run P w = .ok true w := fun d => by
    simp [Op.equalIn, run_underlying hp, sizeOf, typeInfo, hte, run_sameAddr_same]
  simp only [binOp]
  simp [Op.equal, Op.maxDepth, h 9999]
set_option maxHeartbeats 4000000 in
set_option maxRecDepth 100000 in
theorem fn3_any (v : Value) (es : List Ev) (w : World) (h : IsEvs w 0 0 v es) (hf : EvsFit es) :
    Calls Try.prog 3 #[v] w fun e w' => e = .returned (.bool true) ∧ Below w.heap.size w w' := by
  have h' := h
  obtain ⟨a, c, rfl, hc, hnn, hcase0⟩ := h'
  obtain ⟨_, _, hcase⟩ := h.weak
  have q26 : ∀ (w : World) (a : Option Addr) (n c n' c' : Nat), (binOp .eql 26 (.slice a n c) (.slice none n' c')).run Try.prog w = .ok (.bool a.isNone) w := fun w a n c n' c' => Lib.run_eql_slice_nil w _ _ a n c n' c' Try.underlying26
  obtain ⟨j35, hj35, _⟩ := info_parts Try.info35
  have qp : ∀ (w : World) (a : Addr), (binOp .neq 29 (.pointer (some a)) (.pointer (some a))).run Try.prog w = .ok (.bool false) w := fun w a => run_neq_ptr_same w a Try.underlying29 hj35
  clear hj35
  have hzz := zz9_any a c es 0 w hf.1 hcase hf.2
  have hnf := hf.1
  go_enter Try.func3, Try.ntmps3
  go_wp2_with fail
  refine hzz.mono ?_
  rintro e w1 ⟨r, rfl, hw1, hr⟩
  obtain rfl := hw1.symm
  clear hzz hw1
  cases r with
  | false =>
    go_wp2
    go_ret
    exact ⟨rfl, Below.refl _ _⟩
  | true =>
    have hs := hr rfl
    clear hr
    have hnb := hs.1
    go_wp2_with fail
    refine (evSize_any a c es 0 _ hs hcase).mono ?_
    rintro e w1 ⟨r, rfl, hw1, hr0, hr1⟩
    obtain rfl := hw1.symm
    clear hw1
    by_cases hbig : (1048576 : Int) < r
    · go_wp2
      go_ret
      exact ⟨rfl, Below.refl _ _⟩
    · go_wp2_with fail
      refine (cloneEvents_any _ es 0 0 _ h hs).mono ?_
      rintro e w1 ⟨a1, c1, rfl, hb1, h1⟩
      clear hcase hcase0 h
      go_wp2_with fail
      refine (toEvents_any _ es _ _ _ h1 hs).mono ?_
      rintro e w2 ⟨a2, c2, rfl, hb2, h2⟩
      obtain ⟨_, hc2, hcase2⟩ := h2.weak
      go_wp2_with fail
      refine (zzEarly_any a2 c2 es _ _ hs.1 hc2 hcase2).mono ?_
      rintro e w3 ⟨hb3, m, hm, rfl, hearly⟩
      obtain ⟨_, _, hcase1⟩ := h1.weak
      have hbb : Below w1.heap.size w1 w3 := hb2.trans (hb3.mono hb2.size)
      have hB : Below w.heap.size w w3 := hb1.trans (hbb.mono hb1.size)
      have HE : Hid (Early es m) := hearly
      clear hearly h2 h1 hs hf hnn
      rcases Nat.eq_zero_or_pos m with hz | hm0
      · subst hz
        have hz : es.length = 0 := by
          rcases HE.out.2 with ⟨h, _⟩ | ⟨h, _⟩
          · exact h.symm
          · omega
        clear hcase1 hcase2
        rw [hz]
        clear hz hnf hc hnb hc2 hm
        go_wp2
        go_quiet (fail)
        go_wp2
        refine wp_loop_rounds 1 ?_
        rw [rounds_succ]
        go_wp2
        go_ret
        exact ⟨rfl, below_drewN hB _⟩
      · obtain ⟨b1, off1, rfl, hrow1⟩ := hcase1.resolve_left (by omega)
        obtain ⟨b2, off2, rfl, hrow2⟩ := hcase2.resolve_left (by omega)
        have hrow3 := hrow1.below hbb
        clear hcase1 hcase2 hrow1 hrow2
        have HL : Hid (∀ n, n = es.length → (∀ j, j + 1 < m → LdAt es j = false) ∧ (m < n → 1 ≤ m ∧ LdAt es (m - 1) = true)) := by
          rintro n rfl
          refine ⟨HE.out.1, fun hlt => ?_⟩
          rcases HE.out.2 with ⟨h, _⟩ | ⟨h1, _, h2⟩
          · omega
          · exact ⟨h1, h2⟩
        clear HE
        generalize hN : es.length = n at *
        have hg : (0 : Int) < (m : Int) := by omega
        have hg2 : (0 : Int) < (n : Int) := by omega
        have hg3 : 0 < n := by omega
        have hnm : decide (n < m) = false := decide_eq_false (by omega)
        have HN : Hid (es.length = n) := hN
        clear hN
        go_wp2
        go_quiet (fail)
        go_wp2
        go_loopg [6] m (fun g j wr => Below w.heap.size w wr ∧ Below w3.heap.size w3 wr ∧ ∃ (k : Nat), k + g = m ∧ j = .int .i64 k)
        case atStart => exact ⟨below_drewN hB _, below_drewN (Below.refl _ _) _, 0, by omega, rfl⟩
        case round =>
          obtain ⟨hbw, hb3w, k, hk, rfl⟩ := hrel
          by_cases hlt : k + 1 < m
          · obtain ⟨dv, bv, e0, e1, e2, e3, hds, hby⟩ := hrow3 k (by omega)
            have hld : ldB (es.getD k ev0).ty (es.getD k ev0).pcr = false := (HL.out n rfl).1 k hlt
            obtain ⟨p, hp⟩ : ∃ p, p = es.getD k ev0 := ⟨_, rfl⟩
            rw [← hp] at e0 e1 hby hds hld
            obtain ⟨da, dc, rfl, hdc, hdn, hdcase⟩ := hds
            obtain ⟨ba, bc, rfl, hbc, _, _⟩ := hby
            have d0 := below_cell hb3w e0
            have d1 := below_cell hb3w e1
            have d2 := below_cell hb3w e2
            have d3 := below_cell hb3w e3
            clear hp e0 e1 e2 e3 hdcase hdn hrow3
            go_wp2_with (go_at_call 14; refine (isLoader_any _ _ _ _ _ _ _ _ _).mono ?_; rintro e w4 ⟨rfl, hb4⟩)
            go_roundg (gk - 1)
            case measure => omega
            case rel => exact ⟨hbw.trans (hb4.mono hbw.size), hb3w.trans (hb4.mono hb3w.size), k + 1, by omega, by go_num⟩
          · by_cases hmn : m < n
            · obtain ⟨dv, bv, e0, e1, e2, e3, hds, hby⟩ := hrow3 (m - 1) (by omega)
              have hld : ldB (es.getD (m - 1) ev0).ty (es.getD (m - 1) ev0).pcr = true := ((HL.out n rfl).2 hmn).2
              obtain ⟨p, hp⟩ : ∃ p, p = es.getD (m - 1) ev0 := ⟨_, rfl⟩
              rw [← hp] at e0 e1 hby hds hld
              obtain ⟨da, dc, rfl, hdc, hdn, hdcase⟩ := hds
              obtain ⟨ba, bc, rfl, hbc, _, _⟩ := hby
              have d0 := below_cell hb3w e0
              have d1 := below_cell hb3w e1
              have d2 := below_cell hb3w e2
              have d3 := below_cell hb3w e3
              have hm1 : ((m : Int) == 0) = false := by simp; omega
              clear hp e0 e1 e2 e3 hdcase hdn hrow3
              go_wp2_with (go_at_call 14; refine (isLoader_any _ _ _ _ _ _ _ _ _).mono ?_; rintro e w4 ⟨rfl, hb4⟩)
              go_ret
              exact ⟨rfl, hbw.trans (hb4.mono hbw.size)⟩
            · go_wp2
              go_ret
              exact ⟨rfl, hbw⟩
end Go.Proofs.Qxb6601806a
