/-
  FnWriteRowsMoreRowsExtend: the walk and the plain law.
-/
import Derived.Test.Qxb6602123aDoorBox
namespace Go.Proofs.Qxb6602123aDoor
open Go.RowKit Go
theorem slice_head {S A : ByteArray} {m : Nat} (hle : m ≤ S.size) (hA : S.extract 0 m = A) (W : World) : (Instr.slice 9 (.string S) none (some (.int .i64 (m : Int))) none).run Tryd.prog W = .ok (.string A) W := by
  rw [run_slice_string_h (ht := Tryd.underlying9) (h0 := by omega) (h2 := by omega), Int.toNat_natCast, hA]
theorem slice_tail {S B : ByteArray} {m : Nat} (hle : m ≤ S.size) (hB : S.extract m S.size = B) (W : World) : (Instr.slice 9 (.string S) (some (.int .i64 (m : Int))) none none).run Tryd.prog W = .ok (.string B) W := by
  rw [run_slice_string_l (ht := Tryd.underlying9) (h0 := by omega) (h1 := by omega), Int.toNat_natCast, hB]
theorem extract_head (p t : ByteArray) : (p ++ t).extract 0 p.size = p := by
  exact ByteArray.extract_append_eq_left rfl
theorem extract_tail (p t : ByteArray) : (p ++ t).extract p.size (p ++ t).size = t := by
  exact ByteArray.extract_append_eq_right rfl (ByteArray.size_append)
set_option maxHeartbeats 1600000 in
/-- hasPrefix of a text that begins so. -/
theorem hasPrefix_yes (s p t : ByteArray) (w : World) (h : s = p ++ t) (_hs : s.size ≤ 1099511627776) :
    Calls Tryd.prog 16 #[.string s, .string p] w fun e w' => e = .returned (.bool true) ∧ w' = w := by
  have hsz : s.size = p.size + t.size := by rw [h, ByteArray.size_append]
  have hle : (p.size : Int) ≤ (s.size : Int) := by omega
  have hled : decide ((p.size : Int) ≤ (s.size : Int)) = true := by simp; omega
  have sl := slice_head (S := s) (A := p) (m := p.size) (by omega) (by rw [h]; exact extract_head p t)
  have H : Hid (s = p ++ t) := h
  clear h hsz
  go_enter Tryd.func16, Tryd.ntmps16
  go_wp2
  go_ret
  exact ⟨rfl, rfl⟩
theorem rowsT_pre (pm : ByteArray) (nb : Bool) (n r : Nat) : ∀ k, ∃ t, rowsT pm nb n (r + k) = rowsT pm nb n r ++ t
  | 0 => ⟨[], by simp⟩
  | k + 1 => by
    obtain ⟨t, ht⟩ := rowsT_pre pm nb n r k
    exact ⟨t ++ ((if 0 < r + k then [44, 32] else []) ++ ([40] ++ colsT pm nb n (r + k) n ++ [41])), by
      show rowsT pm nb n ((r + k) + 1) = _
      rw [rowsT, ht, List.append_assoc]⟩
theorem rowsT_more (pm : ByteArray) (nb : Bool) (n r k : Nat) (hr : 1 ≤ r) : ∃ t, rowsT pm nb n (r + (k + 1)) = rowsT pm nb n r ++ ([44, 32, 40] ++ t) := by
  obtain ⟨t, ht⟩ := rowsT_pre pm nb n (r + 1) k
  rw [show r + (k + 1) = r + 1 + k by omega, ht, rowsT, if_pos (by omega)]
  exact ⟨colsT pm nb n r n ++ [41] ++ t, by simp⟩
theorem rowsT_ne (pm : ByteArray) (nb : Bool) (n r : Nat) (h : rowsT pm nb n (r + 1) = []) : False := by
  simp [rowsT] at h
/-- The text as a string. -/
abbrev outS (pm : ByteArray) (nb : Bool) (pre : ByteArray) (rows n : Int) : ByteArray := ⟨(outT pm nb pre rows n).toArray⟩
theorem toList_ne {s p : ByteArray} (h : s ≠ p) : (s.toList == p.toList) = false := by
  rw [ByteArray.toList_eq, ByteArray.toList_eq]
  apply Bool.eq_false_iff.2
  intro e
  exact h (ByteArray.ext (Array.ext' (eq_of_beq e)))
theorem outS_eq {pm : ByteArray} {nb : Bool} {pre : ByteArray} {r1 r2 n : Int} {t : List UInt8} (h : rowsT pm nb n.toNat r2.toNat = rowsT pm nb n.toNat r1.toNat ++ t) : outS pm nb pre r2 n = outS pm nb pre r1 n ++ ⟨t.toArray⟩ := by
  apply ByteArray.ext
  rw [ByteArray.data_append]
  apply Array.ext'
  simp [outT, h]
theorem outS_pre (pm : ByteArray) (nb : Bool) (pre : ByteArray) (r1 r2 n : Int) (h : r1 ≤ r2) : ∃ t, outS pm nb pre r2 n = outS pm nb pre r1 n ++ t := by
  obtain ⟨t, ht⟩ := rowsT_pre pm nb n.toNat r1.toNat (r2.toNat - r1.toNat)
  rw [show r1.toNat + (r2.toNat - r1.toNat) = r2.toNat by omega] at ht
  exact ⟨_, outS_eq ht⟩
theorem outS_more (pm : ByteArray) (nb : Bool) (pre : ByteArray) (r1 r2 n : Int) (h1 : 1 ≤ r1) (h : r1 < r2) : ∃ t, outS pm nb pre r2 n = outS pm nb pre r1 n ++ (⟨#[44, 32, 40]⟩ ++ t) := by
  obtain ⟨t, ht⟩ := rowsT_more pm nb n.toNat r1.toNat (r2.toNat - r1.toNat - 1) (by omega)
  rw [show r1.toNat + (r2.toNat - r1.toNat - 1 + 1) = r2.toNat by omega] at ht
  refine ⟨⟨t.toArray⟩, ?_⟩
  rw [outS_eq ht]
  congr 1
theorem outS_zero (pm : ByteArray) (nb : Bool) (pre : ByteArray) (r n : Int) (h : r < 1) : outS pm nb pre r n = pre := by
  apply ByteArray.ext
  apply Array.ext'
  simp [outT, show r.toNat = 0 by omega, rowsT]
theorem outS_ne (pm : ByteArray) (nb : Bool) (pre : ByteArray) (r n : Int) (h : 1 ≤ r) : outS pm nb pre r n ≠ pre := by
  intro e
  have h1 : (outT pm nb pre r n) = pre.data.toList := by
    have := congrArg (fun x : ByteArray => x.data.toList) e
    simpa [outS] using this
  obtain ⟨k, hk⟩ : ∃ k, r.toNat = k + 1 := ⟨r.toNat - 1, by omega⟩
  rw [outT, hk] at h1
  exact rowsT_ne pm nb n.toNat k (by simpa using h1)
set_option maxHeartbeats 4000000 in
set_option maxRecDepth 100000 in
theorem fn6_any (nm pm : ByteArray) (q mp : Int) (nb b1 b2 b3 b4 : Bool) (a : Option Addr) (n c : Nat) (S : Nat → ByteArray) (pre : ByteArray) (x y m : Int) (w : World) (hS : Strs w a n S) (hnil : a = none → n = 0) (hnm : nm.size ≤ maxLen) (hpm : pm.size ≤ maxLen) (hn : n ≤ maxLen) (hpre : pre.size ≤ maxLen)
    (hx : -9223372036854775808 ≤ x ∧ x ≤ 9223372036854775807) (hy : -9223372036854775808 ≤ y ∧ y ≤ 9223372036854775807) (hm : -9223372036854775808 ≤ m ∧ m ≤ 9223372036854775807)
    (ht : Lib.TabIs Tryd.prog w "internal/strconv.uint64pow10" .u64 Lib.pow10Tab) :
    Calls Tryd.prog 6 #[.agg #[.string nm, .int .u8 q, .string pm, .bool nb, .int .i64 mp, .bool b1, .bool b2, .bool b3, .bool b4, .slice a n c], .string pre, .int .i64 x, .int .i64 y, .int .i64 m] w fun e w' => e = .returned (.bool true) ∧ Below w.heap.size w w' := by
  have hBel : Below w.heap.size w (w.alloc (.cells #[.string nm, .int .u8 q, .string pm, .bool nb, .int .i64 mp, .bool b1, .bool b2, .bool b3, .bool b4, .slice a n c] 24)) := (Below.refl _ _).alloc (Nat.le_refl _) _
  have hS1 := hS.below hBel
  have ht' := Lib.tabBelow_of_tabIs ht
  have hX := Box.new w nm pm q mp nb b1 b2 b3 b4 a n c
  go_enter Tryd.func6, Tryd.ntmps6
  go_wp2_with fail
  refine (zz24_any nm pm q mp nb b1 b2 b3 b4 a n c S pre x y m _ hS1 hnm hpm hn hpre).mono ?_
  rintro e w1 ⟨r1, rfl, hb1, hr1⟩
  have hX1 := hX.below hX.lt hb1
  have hB1 : Below w.heap.size w w1 := hBel.trans (hb1.mono (by simp))
  have hS2 := hS1.below hb1
  have HR1 : Hid (r1 = true → nm.size ≤ 1048576 ∧ pm.size ≤ 1048576 ∧ n ≤ 1048576 ∧ (∀ (i : Nat), i < n → (S i).size ≤ 1048576) ∧ pre.size ≤ 1048576) := hr1
  clear hBel hS1 hX hb1 hr1
  obtain ⟨c0, c1, c2, c3, c4, c5, c6, c7, c8, c9, _⟩ := hX1.cells
  cases r1 with
  | false =>
    go_wp2_with fail
    go_ret
    exact ⟨rfl, hB1⟩
  | true =>
    obtain ⟨k0, k1, k2, k3, kp⟩ := HR1.out rfl
    clear HR1 hnm hpm hn hpre
    have HS : Hid (∀ i, i < n → (S i).size ≤ 1048576) := k3
    clear k3
    go_wp2_with fail
    refine (bigRows_any nm pm q mp nb b1 b2 b3 b4 a n c S pre y m _ hS2 k0 k1 k2 HS.out kp (by omega)).mono ?_
    rintro e w4 ⟨r4, rfl, hb4, hr4⟩
    have hX4 := hX1.below hX1.lt hb4
    have hB4 : Below w.heap.size w w4 := hB1.trans (hb4.mono hB1.size)
    have hS4 := hS2.below hb4
    have HR4 : Hid (r4 = false → y ≤ 65536 ∧ y.toNat * m.toNat ≤ 65536) := hr4
    clear hB1 hS2 hX1 hb4 hr4 c0 c1 c2 c3 c4 c5 c6 c7 c8 c9
    obtain ⟨c0, c1, c2, c3, c4, c5, c6, c7, c8, c9, f9⟩ := hX4.cells
    cases r4 with
    | true =>
      go_wp2_with fail
      go_ret
      exact ⟨rfl, hB4⟩
    | false =>
      by_cases hxy : x ≤ y
      · have hxyd : decide (y < x) = false := by simp; omega
        obtain ⟨k5, k6⟩ := HR4.out rfl
        have HK6 : Hid (y.toNat * m.toNat ≤ 65536) := k6
        clear HR4 k6
        go_wp2_with fail
        refine (cloneStrings_any a n c S w4 k2 hS4 hnil).mono ?_
        rintro e w5 ⟨a', c', rfl, hb5⟩
        have hX5 := hX4.below hX4.lt hb5
        have hB5 : Below w.heap.size w w5 := hB4.trans (hb5.mono hB4.size)
        clear hB4 hS4 hX4 hb5 c0 c1 c2 c3 c4 c5 c6 c7 c8 c9 f9
        obtain ⟨_, _, _, _, _, _, _, _, _, c9, f9⟩ := hX5.cells
        have hX6 := hX5.set a' n c'
        obtain ⟨d0, d1, d2, d3, d4, d5, d6, d7, d8, d9, _⟩ := hX6.cells
        have hB6 : Below w.heap.size w (w5.setCell ⟨w.heap.size, 9, none⟩ (.slice a' n c')) := hB5.setCell (by simp) _
        go_wp2_with fail
        clear c9 f9 hX5 hX6
        generalize w5.setCell ⟨w.heap.size, 9, none⟩ (.slice a' n c') = w6 at *
        refine (mkDialect_any nm pm q mp nb b1 b2 b3 b4 a' n c' _).mono ?_
        rintro e w7 ⟨d, rfl, hb7, hD7⟩
        have hB7 : Below w.heap.size w w7 := hB6.trans (hb7.mono hB6.size)
        clear hB6 hb7 d0 d1 d2 d3 d4 d5 d6 d7 d8 d9 hB5
        go_wp2_with fail
        refine (zzRows_any d pm nb pre x m w7 hD7 ((ht'.on hB7).here) kp k1 (by omega) (mulMono HK6.out (by omega))).mono ?_
        rintro e w8 ⟨rfl, hb8⟩
        have hB8 : Below w.heap.size w w8 := hB7.trans (hb8.mono hB7.size)
        have hD8 := (hD7.below hb8).wide hb8.size
        clear hb8 hD7 hB7
        have z1 := outT_size (nb := nb) (pre := pre) (rows := x) (n := m) k1 kp (by omega) (mulMono HK6.out (by omega))
        have z2 := outT_size (nb := nb) (pre := pre) (rows := y) (n := m) k1 kp (by omega) HK6.out
        have L1 : Hid _ := outS_pre pm nb pre x y m hxy
        have L2 : Hid (1 ≤ x → x < y → ∃ t, outS pm nb pre y m = outS pm nb pre x m ++ (⟨#[44, 32, 40]⟩ ++ t)) := outS_more pm nb pre x y m
        have L3 : Hid (x < 1 → outS pm nb pre x m = pre) := outS_zero pm nb pre x m
        have L4 : Hid (y < 1 → outS pm nb pre y m = pre) := outS_zero pm nb pre y m
        have L5 : Hid (1 ≤ y → outS pm nb pre y m ≠ pre) := outS_ne pm nb pre y m
        have L6 : Hid (x = y → outS pm nb pre x m = outS pm nb pre y m) := fun e => by rw [e]
        unfold outS at L1 L2 L3 L4 L5 L6
        generalize ByteArray.mk (outT pm nb pre x m).toArray = s1 at *
        go_wp2_with fail
        refine (zzRows_any d pm nb pre y m w8 hD8 ((ht'.on hB8).here) kp k1 k5 HK6.out).mono ?_
        rintro e w9 ⟨rfl, hb9⟩
        have hB9 : Below w.heap.size w w9 := hB8.trans (hb9.mono hB8.size)
        clear hb9 hD8 hB8
        generalize ByteArray.mk (outT pm nb pre y m).toArray = s2 at *
        go_wp2_with fail
        obtain ⟨t, hst⟩ := L1.out
        refine (hasPrefix_yes s2 s1 t w9 hst z2).mono ?_
        rintro e w10 ⟨rfl, hw⟩
        obtain rfl := hw.symm
        have L1' : Hid (s2 = s1 ++ t) := hst
        clear hw hst L1
        by_cases hx1 : x < 1
        · have hx1d : decide (x < 1) = true := by simp; omega
          have hs1 := L3.out hx1
          have q1 : (s1.toList == pre.toList) = true := by rw [hs1, beq_self_eq_true]
          clear hs1
          by_cases hy1 : y < 1
          · have hy1d : decide (y < 1) = true := by simp; omega
            have hs2 := L4.out hy1
            have q2 : (s2.toList == pre.toList) = true := by rw [hs2, beq_self_eq_true]
            clear hs2
            go_wp2_with fail
            go_ret
            exact ⟨rfl, hB9⟩
          · have hy1d : decide (y < 1) = false := by simp; omega
            have hs2 := L5.out (by omega)
            have q2 : (s2.toList == pre.toList) = false := toList_ne hs2
            clear hs2
            go_wp2_with fail
            go_ret
            exact ⟨rfl, hB9⟩
        · have hx1d : decide (x < 1) = false := by simp; omega
          by_cases hxe : x = y
          · have hss := L6.out hxe
            subst hss
            subst hxe
            go_wp2_with fail
            go_ret
            exact ⟨by simp, hB9⟩
          · have hxeb : (y == x) = false := by simp; omega
            have hxed : decide (y = x) = false := by simp; omega
            obtain ⟨t', ht2⟩ := L2.out (by omega) (by omega)
            have hsz : s2.size = s1.size + (ByteArray.mk #[44, 32, 40] ++ t').size := by rw [ht2, ByteArray.size_append]
            have sl := slice_tail (S := s2) (B := ByteArray.mk #[44, 32, 40] ++ t') (m := s1.size) (by omega) (by rw [ht2]; exact extract_tail _ _)
            have hsb : (ByteArray.mk #[44, 32, 40] ++ t').size ≤ 1099511627776 := by omega
            clear ht2 hsz
            go_wp2_with fail
            refine (hasPrefix_yes _ _ t' w9 rfl hsb).mono ?_
            rintro e w10 ⟨rfl, hw⟩
            obtain rfl := hw.symm
            clear hw
            go_wp2_with fail
            go_ret
            exact ⟨rfl, hB9⟩
      · have hxyd : decide (y < x) = true := by simp; omega
        go_wp2_with fail
        go_ret
        exact ⟨rfl, hB4⟩
end Go.Proofs.Qxb6602123aDoor
