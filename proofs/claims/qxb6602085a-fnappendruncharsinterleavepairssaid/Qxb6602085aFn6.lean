/-
  The law's own text answers true.
-/
import Derived.Test.Qxb6602085aRun
namespace Go.Proofs.Qxb6602085a
open Go.RowKit Go
/-- What appendRun answers, onto nil. -/
def wordsOf (chars : Bool) (f : ByteArray) (z : Nat → Nat) (n : Nat) : List ByteArray := if n ≤ 1 then [] else if n = 2 then [chr f z 0] else run chars f z (n - 1) (n - 1)
theorem ext_size (f : ByteArray) {x y : Nat} (h2 : y ≤ f.size) : (f.extract x y).size = y - x := by
  rw [ByteArray.size_extract]; omega
theorem ext_ext (f : ByteArray) (x t i j : Nat) (h3 : x + j ≤ t) : (f.extract x t).extract i j = f.extract (x + i) (x + j) := by
  apply ByteArray.ext
  simp only [ByteArray.data_extract]
  rw [Array.extract_extract]
  congr 1
  omega
theorem slice_head {S A : ByteArray} {m : Nat} (hle : m ≤ S.size) (hA : S.extract 0 m = A) (W : World) : (Instr.slice 9 (.string S) none (some (.int .i64 (m : Int))) none).run Try.prog W = .ok (.string A) W := by
  rw [run_slice_string_h (ht := Try.underlying9) (h0 := by omega) (h2 := by omega), Int.toNat_natCast, hA]
theorem slice_tail {S B : ByteArray} {m : Nat} (hle : m ≤ S.size) (hB : S.extract m S.size = B) (W : World) : (Instr.slice 9 (.string S) (some (.int .i64 (m : Int))) none none).run Try.prog W = .ok (.string B) W := by
  rw [run_slice_string_l (ht := Try.underlying9) (h0 := by omega) (h1 := by omega), Int.toNat_natCast, hB]
theorem appendRun_any (f : ByteArray) (a : Option Addr) (n c : Nat) (z : Nat → Nat) (chars : Bool) (w : World) (hf : f.size ≤ 1048576) (hn : n ≤ 1048576) (hfit : Fit z n f.size) (h : Ints w a n (fun i => z i)) :
    Calls Try.prog 28 #[.slice none 0 0, .string f, .slice a n c, .bool chars] w (RunPost w (wordsOf chars f z n)) := by
  unfold wordsOf
  by_cases h1 : n ≤ 1
  · rw [if_pos h1]
    exact appendRun_short f a n c chars w h1
  · rw [if_neg h1]
    obtain ⟨b, off, rfl, hcell⟩ := h.resolve_left (by omega)
    by_cases h2 : n = 2
    · subst h2
      rw [if_pos rfl]
      exact appendRun_two f b off c z chars w hf (hfit.step (by omega)) (hfit 1 (by omega)).1 (hcell 0 (by omega)) (hcell 1 (by omega))
    · rw [if_neg h2]
      obtain ⟨N, rfl⟩ : ∃ N, n = N + 1 := ⟨n - 1, by omega⟩
      rw [Nat.add_sub_cancel]
      cases chars with
      | true => exact appendRun_true f b off c N z w (by omega) (by omega) hfit hcell
      | false => exact appendRun_false f b off c N z w (by omega) (by omega) hfit hcell
set_option maxHeartbeats 800000 in
theorem zzRun_any (f : ByteArray) (a : Option Addr) (n c : Nat) (z : Nat → Nat) (chars : Bool) (w : World) (hf : f.size ≤ 1048576) (hn : n ≤ 1048576) (hfit : Fit z n f.size) (h : Ints w a n (fun i => z i)) :
    Calls Try.prog 20 #[.slice none 0 0, .string f, .slice a n c, .bool chars] w (RunPost w (wordsOf chars f z n)) := by
  have HJ := appendRun_any f a n c z chars w hf hn hfit h
  clear h hfit hf hn
  go_enter Try.func20, Try.ntmps20
  go_wp2_with fail
  refine HJ.mono ?_
  rintro e w1 ⟨a', c', rfl, hb, hs⟩
  clear HJ
  go_wp2
  go_ret
  exact ⟨a', c', rfl, hb, hs⟩
set_option maxHeartbeats 8000000 in
set_option maxRecDepth 100000 in
theorem fn6_any (f : ByteArray) (a : Option Addr) (n c : Nat) (zi : Nat → Int) (w : World) (hf : f.size ≤ maxLen) (hn : n ≤ maxLen) (h : Ints w a n zi) (hnil : a = none → n = 0) :
    Calls Try.prog 6 #[.string f, .slice a n c] w fun e w' => e = .returned (.bool true) ∧ Below w.heap.size w w' := by
  have hzz := zz17_any f a n c w hf hn
  unfold maxLen at hf hn
  go_enter Try.func6, Try.ntmps6
  go_wp2_with fail
  refine hzz.mono ?_
  rintro e w1 ⟨r, rfl, hw1, hr⟩
  obtain rfl := hw1.symm
  clear hzz hw1
  cases r with
  | false =>
    go_wp2
    go_ret
    exact ⟨rfl, Below.refl _ _⟩
  | true =>
    obtain ⟨hf1, hn1⟩ := hr rfl
    clear hr
    by_cases hn2 : (65536 : Int) < (n : Int)
    · go_wp2
      go_ret
      exact ⟨rfl, Below.refl _ _⟩
    by_cases hbig : (1048576 : Int) < (f.size : Int) + 8 * (n : Int)
    · go_wp2
      go_ret
      exact ⟨rfl, Below.refl _ _⟩
    have hcf := cutsFit_any f a n c zi w hf1 hn1 h
    go_wp2_with fail
    refine hcf.mono ?_
    rintro e w1 ⟨r, rfl, ⟨m, hm⟩, hr⟩
    clear hcf
    have hB1 : Below w.heap.size w w1 := by rw [hm]; exact below_drewN (Below.refl _ _) _
    have h1 := h.below hB1
    clear hm h
    cases r with
    | false =>
      go_wp2
      go_ret
      exact ⟨rfl, hB1⟩
    | true =>
      have hfit := hr rfl
      clear hr
      have hcl := cloneInts_any a n c zi w1 hn1 h1 hnil
      go_wp2_with fail
      refine hcl.mono ?_
      rintro e w2 ⟨a2, c2, rfl, hb2, h2⟩
      clear hcl h1 hnil
      have hB2 := hB1.trans (hb2.mono hB1.size)
      clear hb2 hB1
      obtain ⟨z, hz⟩ : ∃ z : Nat → Nat, z = fun i => (zi i).toNat := ⟨_, rfl⟩
      have hzi : ∀ i, i < n → zi i = (z i : Int) := fun i hi => by rw [hz]; have := (hfit i hi).1; simp only; omega
      have hFit : Fit z n f.size := fun i hi => by
        obtain ⟨g1, g2, g3⟩ := hfit i hi
        have e1 := hzi i hi
        refine ⟨by omega, fun h0 => ?_⟩
        have e2 := hzi (i - 1) (by omega)
        have := g3 h0
        omega
      replace h2 := h2.congr hzi
      clear hz hzi hfit
      go_wp2_with fail
      refine (zzRun_any f a2 n c2 z true _ hf1 hn1 hFit h2).mono ?_
      rintro e w3 ⟨a3, c3, rfl, hb3, h3⟩
      replace h2 := h2.below hb3
      replace hB2 := hB2.trans (hb3.mono hB2.size)
      clear hb3
      go_wp2_with fail
      refine (zzRun_any f a2 n c2 z false _ hf1 hn1 hFit h2).mono ?_
      rintro e w4 ⟨a4, c4, rfl, hb4, h4⟩
      replace h2 := h2.below hb4
      replace h3 := h3.below hb4
      replace hB2 := hB2.trans (hb4.mono hB2.size)
      clear hb4
      by_cases hs1 : n ≤ 1
      · have l1 : (wordsOf true f z n).length = 0 := by unfold wordsOf; rw [if_pos hs1]; rfl
        have l2 : (wordsOf false f z n).length = 0 := by unfold wordsOf; rw [if_pos hs1]; rfl
        rw [l1, l2]
        clear l1 l2 h3 h4
        go_wp2
        go_ret
        exact ⟨by simp, hB2⟩
      by_cases hs2 : n = 2
      · subst hs2
        obtain ⟨b, off, rfl, hcell⟩ := h2.resolve_left (by omega)
        have l1 : wordsOf true f z 2 = [f.extract (z 0) (z 1)] := rfl
        have l2 : wordsOf false f z 2 = [f.extract (z 0) (z 1)] := rfl
        rw [l1] at h3 ⊢
        rw [l2] at h4 ⊢
        clear l1 l2
        obtain ⟨g3, rfl, hc3⟩ := h3.resolve_left (by simp)
        obtain ⟨g4, rfl, hc4⟩ := h4.resolve_left (by simp)
        have v3 := hc3 0 (by simp)
        have v4 := hc4 0 (by simp)
        have u0 := hcell 0 (by omega)
        have u1 := hcell 1 (by omega)
        have q0 := hFit.step (show 0 + 1 < 2 by omega)
        have q1 := (hFit 1 (by omega)).1
        obtain ⟨x, hx⟩ : ∃ x, x = z 0 := ⟨_, rfl⟩
        obtain ⟨y, hy⟩ : ∃ y, y = z 1 := ⟨_, rfl⟩
        simp only [Nat.add_zero, Nat.zero_add, ← hx, ← hy, List.getD_cons_zero, List.length_cons, List.length_nil] at v3 v4 u0 u1 q0 q1 ⊢
        clear hx hy hcell hc3 hc4 h2 h3 h4 hFit
        have e1 : (0 : Int) ≤ (x : Int) := by omega
        have e2 : (x : Int) ≤ (y : Int) := by omega
        have e3 : (y : Int) ≤ (f.size : Int) := by omega
        go_wp2
        go_quiet (fail)
        go_wp2
        go_ret
        exact ⟨by simp, below_drewN hB2 _⟩
      · obtain ⟨b, off, rfl, hcell⟩ := h2.resolve_left (by omega)
        obtain ⟨N, rfl⟩ : ∃ N, n = N + 1 := ⟨n - 1, by omega⟩
        have l1 : wordsOf true f z (N + 1) = run true f z N N := by unfold wordsOf; rw [if_neg hs1, if_neg hs2, Nat.add_sub_cancel]
        have l2 : wordsOf false f z (N + 1) = run false f z N N := by unfold wordsOf; rw [if_neg hs1, if_neg hs2, Nat.add_sub_cancel]
        have m1 := with_length f z (show 0 < N by omega)
        have m2 := without_length f z (show 0 < N by omega)
        rw [l1] at h3 ⊢
        rw [l2] at h4 ⊢
        obtain ⟨g3, rfl, hc3⟩ := h3.resolve_left (by omega)
        obtain ⟨g4, rfl, hc4⟩ := h4.resolve_left (by omega)
        have w3c : ∀ k, k < N → w4.cell? ⟨g3, 2 * k, none⟩ = some (.string (chr f z k)) := fun k hk => by rw [hc3 (2 * k) (by omega), with_chr f z hk]
        have w3p : ∀ k, k + 1 < N → w4.cell? ⟨g3, 2 * k + 1, none⟩ = some (.string (pair f z k)) := fun k hk => by rw [hc3 (2 * k + 1) (by omega), with_pair f z hk]
        have w4p : ∀ k, k + 1 < N → w4.cell? ⟨g4, k, none⟩ = some (.string (pair f z k)) := fun k hk => by rw [hc4 k (by omega), without_pair f z hk]
        rw [m1, m2]
        obtain ⟨N', rfl⟩ : ∃ N', N = N' + 1 := ⟨N - 1, by omega⟩
        rw [show 2 * (N' + 1) - 1 = 2 * N' + 1 by omega, Nat.add_sub_cancel]
        have u0 : w4.cell? ⟨b, off, none⟩ = some (.int .i64 (z 0)) := by
          have := hcell 0 (by omega)
          rw [Nat.add_zero] at this
          exact this
        have hNb : N' ≤ 1048576 := by omega
        have HC : Hid ((∀ k, k < N' + 1 → w4.cell? ⟨g3, 2 * k, none⟩ = some (.string (chr f z k))) ∧ (∀ k, k + 1 < N' + 1 → w4.cell? ⟨g3, 2 * k + 1, none⟩ = some (.string (pair f z k))) ∧
          (∀ k, k + 1 < N' + 1 → w4.cell? ⟨g4, k, none⟩ = some (.string (pair f z k))) ∧ (∀ i, i < N' + 1 + 1 → w4.cell? ⟨b, off + i, none⟩ = some (.int .i64 (z i))) ∧ Fit z (N' + 1 + 1) f.size) := ⟨w3c, w3p, w4p, hcell, hFit⟩
        obtain ⟨x0, hx0⟩ : ∃ x, x = z 0 := ⟨_, rfl⟩
        have HX0 : Hid (x0 = z 0) := hx0
        rw [← hx0] at u0
        have hN1 : 1 ≤ N' := by omega
        clear l1 l2 m1 m2 hc3 hc4 h2 h3 h4 w3c w3p w4p hcell hFit hs1 hs2 hx0 hn1 hn hn2
        have nq0 : decide ((N' : Int) + 1 ≤ 0) = false := decide_eq_false (by omega)
        have nq1 : (((N' : Int) + 1) == 1) = false := by simp; omega
        go_wp2
        go_loopg [9, 10] (N' + 1) (fun g p i wr => wr = w4 ∧ ∃ k x : Nat, k + g = N' + 1 ∧ p = .int .i64 x ∧ x = z k ∧ i = .int .i64 (2 * (k : Int)))
        case atStart => exact ⟨rfl, 0, x0, by omega, rfl, HX0.out, rfl⟩
        case round =>
          obtain ⟨hwr, k, x, hk, rfl, hx, rfl⟩ := hrel
          obtain rfl := hwr.symm
          clear hwr
          by_cases hlt : k < N' + 1
          · obtain ⟨w3c, w3p, w4p, hcell, hFit⟩ := HC.out
            have v := w3c k hlt
            have q0 := hFit.step (show k + 1 < N' + 1 + 1 by omega)
            have q1 := (hFit (k + 1) (by omega)).1
            have hA := ext_size f (x := z k) q1
            have hxt : f.extract (z k) (z k + (z (k + 1) - z k)) = f.extract (z k) (z (k + 1)) := by rw [show z k + (z (k + 1) - z k) = z (k + 1) by omega]
            unfold chr at v
            rw [← hA] at hxt
            obtain ⟨A, hAA⟩ : ∃ A, A = f.extract (z k) (z (k + 1)) := ⟨_, rfl⟩
            rw [← hAA] at v hA hxt
            rw [← hx] at hxt hA q0
            have hnext : z (k + 1) = x + A.size := by omega
            have e1 : (x : Int) + (A.size : Int) ≤ (f.size : Int) := by omega
            have e2 : ¬ ((f.size : Int) - (x : Int) < (A.size : Int)) := by omega
            have e3 : (x : Int) ≤ (x : Int) + (A.size : Int) := by omega
            have etn : (2 * (k : Int)).toNat = 2 * k := by omega
            have exn : ((x : Int) + (A.size : Int)).toNat = x + A.size := by omega
            have e4 : 2 * (k : Int) < 2 * (N' : Int) + 1 := by omega
            have e5 : (0 : Int) ≤ 2 * (k : Int) := by omega
            have HN : Hid (z (k + 1) = x + A.size) := hnext
            clear w3c w3p w4p hcell hFit hA hAA hx hnext q0 q1
            go_wp2
            go_roundg (gk - 1)
            case measure => omega
            case rel => exact ⟨rfl, k + 1, x + A.size, by omega, by go_num, HN.out.symm, by go_num⟩
          · obtain rfl : k = N' + 1 := by omega
            obtain ⟨w3c, w3p, w4p, hcell, hFit⟩ := HC.out
            have v := hcell (N' + 1) (by omega)
            rw [← hx] at v
            have e4 : decide (2 * ((N' : Int) + 1) < 2 * (N' : Int) + 1) = false := decide_eq_false (by omega)
            clear w3c w3p w4p hcell hFit hx
            go_wp2
            go_loopg [12] N' (fun g i wr => wr = w4 ∧ ∃ k : Nat, k + g = N' ∧ i = .int .i64 k)
            case atStart => exact ⟨rfl, 0, by omega, rfl⟩
            case round =>
              obtain ⟨hwr, k, hk, rfl⟩ := hrel
              obtain rfl := hwr.symm
              clear hwr
              by_cases hlt : k < N'
              · obtain ⟨w3c, w3p, w4p, hcell, hFit⟩ := HC.out
                have vP := w4p k (by omega)
                have vQ := w3p k (by omega)
                have vA := w3c k (by omega)
                have vB := w3c (k + 1) (by omega)
                have q0 := hFit.step (show k + 1 < N' + 1 + 1 by omega)
                have q2 : z (k + 1) ≤ z (k + 2) := hFit.step (show k + 1 + 1 < N' + 1 + 1 by omega)
                have q3 := (hFit (k + 1) (by omega)).1
                have q4 := (hFit (k + 2) (by omega)).1
                have hA := ext_size f (x := z k) q3
                have hB := ext_size f (x := z (k + 1)) q4
                have hP := ext_size f (x := z k) q4
                have hPA := ext_ext f (z k) (z (k + 2)) 0 (z (k + 1) - z k) (by omega)
                have hPB := ext_ext f (z k) (z (k + 2)) (z (k + 1) - z k) (z (k + 2) - z k) (by omega)
                rw [show z k + 0 = z k from rfl, show z k + (z (k + 1) - z k) = z (k + 1) by omega, ← hA] at hPA
                rw [show z k + (z (k + 1) - z k) = z (k + 1) by omega, show z k + (z (k + 2) - z k) = z (k + 2) by omega, ← hA, ← hP] at hPB
                rw [show 2 * (k + 1) = 2 * k + 2 by omega] at vB
                unfold chr at vA vB
                rw [show k + 1 + 1 = k + 2 from rfl] at vB
                unfold pair at vP vQ
                obtain ⟨A, hAA⟩ : ∃ A, A = f.extract (z k) (z (k + 1)) := ⟨_, rfl⟩
                obtain ⟨B, hBB⟩ : ∃ B, B = f.extract (z (k + 1)) (z (k + 2)) := ⟨_, rfl⟩
                obtain ⟨P, hPP⟩ : ∃ P, P = f.extract (z k) (z (k + 2)) := ⟨_, rfl⟩
                rw [← hAA] at vA hA hPA hPB
                rw [← hBB] at vB hB hPB
                rw [← hPP] at vP vQ hP hPA hPB
                have s1 : ((P.size : Int) != (A.size : Int) + (B.size : Int)) = false := by simp; omega
                have s2 : (A.size : Int) ≤ (P.size : Int) := by omega
                have s3 : A.size ≤ P.size := by omega
                have t1 : (2 * (k : Int) + 1).toNat = 2 * k + 1 := by omega
                have t2 : (2 * (k : Int)).toNat = 2 * k := by omega
                have t3 : (2 * (k : Int) + 2).toNat = 2 * k + 2 := by omega
                have ba : A.size ≤ 1048576 := by omega
                have bb : B.size ≤ 1048576 := by omega
                have bp : P.size ≤ 1048576 := by omega
                have sl1 := slice_head s3 hPA
                have sl2 := slice_tail s3 hPB
                clear w3c w3p w4p hcell hFit hA hB hP hAA hBB hPP q0 q2 q3 q4 v HC e4 hPA hPB s2 s3
                go_wp2
                go_roundg (gk - 1)
                case measure => omega
                case rel => exact ⟨rfl, k + 1, by omega, by go_num⟩
              · go_wp2
                go_ret
                exact ⟨rfl, hB2⟩
end Go.Proofs.Qxb6602085a
