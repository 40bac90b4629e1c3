/-
  FnWriteRowsUnnumberedConcat: the walk and the plain law.
-/
import Derived.Test.Qxb6602123aDoorBox
namespace Go.Proofs.Qxb6602123aDoor
open Go.RowKit Go
theorem colsT_un (pm : ByteArray) (n r : Nat) : ∀ i, colsT pm false n r i = colsT pm false n 0 i
  | 0 => rfl
  | i + 1 => by simp [colsT, parT, colsT_un pm n r i]
theorem rowsT_add (pm : ByteArray) (n A : Nat) (hA : 1 ≤ A) : ∀ B, rowsT pm false n (A + (B + 1)) = rowsT pm false n A ++ ([44, 32] ++ rowsT pm false n (B + 1))
  | 0 => by
    have h : 0 < A := hA
    simp [rowsT, h, colsT_un pm n A]
  | B + 1 => by
    have ih := rowsT_add pm n A hA B
    have h : 0 < A + (B + 1) := by omega
    have e1 : rowsT pm false n (A + (B + 1 + 1)) = rowsT pm false n (A + (B + 1)) ++ ([44, 32] ++ ([40] ++ colsT pm false n 0 n ++ [41])) := by
      show rowsT pm false n ((A + (B + 1)) + 1) = _
      simp only [rowsT, if_pos h, colsT_un pm n (A + (B + 1))]
    have e2 : rowsT pm false n (B + 1 + 1) = rowsT pm false n (B + 1) ++ ([44, 32] ++ ([40] ++ colsT pm false n 0 n ++ [41])) := by
      conv => lhs; unfold rowsT
      rw [if_pos (by omega), colsT_un pm n (B + 1)]
    rw [e1, e2, ih]
    simp only [List.append_assoc]
theorem law7 (pm : ByteArray) (x y m : Int) (hx : 1 ≤ x) (hy : 1 ≤ y) :
    (ByteArray.mk (outT pm false ⟨#[]⟩ (x + y) m).toArray) = ByteArray.mk (outT pm false ⟨#[]⟩ x m).toArray ++ ⟨#[44, 32]⟩ ++ ByteArray.mk (outT pm false ⟨#[]⟩ y m).toArray := by
  obtain ⟨A, rfl⟩ : ∃ A : Nat, x = (A : Int) := ⟨x.toNat, by omega⟩
  obtain ⟨B, rfl⟩ : ∃ B : Nat, y = ((B + 1 : Nat) : Int) := ⟨y.toNat - 1, by omega⟩
  apply ByteArray.ext
  rw [ByteArray.data_append, ByteArray.data_append]
  apply Array.ext'
  rw [show ((A : Int) + ((B + 1 : Nat) : Int)) = ((A + (B + 1) : Nat) : Int) by omega]
  simp only [outT, Int.toNat_natCast]
  rw [rowsT_add pm m.toNat A (by omega) B]
  simp
set_option maxHeartbeats 4000000 in
set_option maxRecDepth 100000 in
theorem fn7_any (nm pm : ByteArray) (q mp : Int) (nb b1 b2 b3 b4 : Bool) (a : Option Addr) (n c : Nat) (S : Nat → ByteArray) (x y m : Int) (w : World) (hS : Strs w a n S) (hnil : a = none → n = 0) (hnm : nm.size ≤ maxLen) (hpm : pm.size ≤ maxLen) (hn : n ≤ maxLen)
    (hx : -9223372036854775808 ≤ x ∧ x ≤ 9223372036854775807) (hy : -9223372036854775808 ≤ y ∧ y ≤ 9223372036854775807) (hm : -9223372036854775808 ≤ m ∧ m ≤ 9223372036854775807)
    (ht : Lib.TabIs Tryd.prog w "internal/strconv.uint64pow10" .u64 Lib.pow10Tab) :
    Calls Tryd.prog 7 #[.agg #[.string nm, .int .u8 q, .string pm, .bool nb, .int .i64 mp, .bool b1, .bool b2, .bool b3, .bool b4, .slice a n c], .int .i64 x, .int .i64 y, .int .i64 m] w fun e w' => e = .returned (.bool true) ∧ Below w.heap.size w w' := by
  have hBel : Below w.heap.size w (w.alloc (.cells #[.string nm, .int .u8 q, .string pm, .bool nb, .int .i64 mp, .bool b1, .bool b2, .bool b3, .bool b4, .slice a n c] 24)) := (Below.refl _ _).alloc (Nat.le_refl _) _
  have hS1 := hS.below hBel
  have ht' := Lib.tabBelow_of_tabIs ht
  have hX := Box.new w nm pm q mp nb b1 b2 b3 b4 a n c
  go_enter Tryd.func7, Tryd.ntmps7
  go_wp2_with fail
  refine (zz25_any nm pm q mp nb b1 b2 b3 b4 a n c S x y m _ hS1 hnm hpm hn).mono ?_
  rintro e w1 ⟨r1, rfl, hb1, hr1⟩
  have hX1 := hX.below hX.lt hb1
  have hB1 : Below w.heap.size w w1 := hBel.trans (hb1.mono (by simp))
  have hS2 := hS1.below hb1
  have HR1 : Hid (r1 = true → nm.size ≤ 1048576 ∧ pm.size ≤ 1048576 ∧ n ≤ 1048576 ∧ ∀ (i : Nat), i < n → (S i).size ≤ 1048576) := hr1
  clear hBel hS1 hX hb1 hr1
  obtain ⟨c0, c1, c2, c3, c4, c5, c6, c7, c8, c9, _⟩ := hX1.cells
  cases r1 with
  | false =>
    go_wp2_with fail
    go_ret
    exact ⟨rfl, hB1⟩
  | true =>
    obtain ⟨k0, k1, k2, k3⟩ := HR1.out rfl
    clear HR1 hnm hpm hn
    have HS : Hid (∀ i, i < n → (S i).size ≤ 1048576) := k3
    clear k3
    go_wp2_with fail
    refine (dialectBytes_any nm pm q mp nb b1 b2 b3 b4 a n c S _ hS2 k0 k1 k2 HS.out).mono ?_
    rintro e w2 ⟨r2, rfl, hb2, hr2, hr2'⟩
    have hX2 := hX1.below hX1.lt hb2
    have hB2 : Below w.heap.size w w2 := hB1.trans (hb2.mono hB1.size)
    have hS3 := hS2.below hb2
    clear hB1 hS2 hX1 hb2 c0 c1 c2 c3 c4 c5 c6 c7 c8 c9
    obtain ⟨c0, c1, c2, c3, c4, c5, c6, c7, c8, c9, _⟩ := hX2.cells
    go_wp2_with fail
    refine (addLen_any r2 0 _ (by omega) (by omega) (by omega) (by omega)).mono ?_
    rintro e w3 ⟨r3, rfl, hw, hr3, hr3', hr3''⟩
    obtain rfl := hw.symm
    clear hr3'' hw
    by_cases h3 : r3 ≤ 1048576
    · have h3d : decide (1048576 < r3) = false := by simp; omega
      by_cases x1 : x ≤ 65536
      · have x1d : decide (65536 < x) = false := by simp; omega
        by_cases y1 : y ≤ 65536
        · have y1d : decide (65536 < y) = false := by simp; omega
          by_cases x0 : 1 ≤ x
          · have x0d : decide (x < 1) = false := by simp; omega
            by_cases y0 : 1 ≤ y
            · have y0d : decide (y < 1) = false := by simp; omega
              go_wp2_with fail
              refine (bigRows_any nm pm q mp nb b1 b2 b3 b4 a n c S _ (x + y) m _ hS3 k0 k1 k2 HS.out (by decide) (by omega)).mono ?_
              rintro e w4 ⟨r4, rfl, hb4, hr4⟩
              have hX4 := hX2.below hX2.lt hb4
              have hB4 : Below w.heap.size w w4 := hB2.trans (hb4.mono hB2.size)
              have hS4 := hS3.below hb4
              have HR4 : Hid (r4 = false → x + y ≤ 65536 ∧ (x + y).toNat * m.toNat ≤ 65536) := hr4
              clear hB2 hS3 hX2 hb4 hr4 c0 c1 c2 c3 c4 c5 c6 c7 c8 c9
              obtain ⟨c0, c1, c2, c3, c4, c5, c6, c7, c8, c9, f9⟩ := hX4.cells
              cases r4 with
              | true =>
                go_wp2_with fail
                go_ret
                exact ⟨rfl, hB4⟩
              | false =>
                cases nb with
                | true =>
                  go_wp2_with fail
                  go_ret
                  exact ⟨rfl, hB4⟩
                | false =>
                  obtain ⟨k5, k6⟩ := HR4.out rfl
                  have HK6 : Hid ((x + y).toNat * m.toNat ≤ 65536) := k6
                  clear HR4 k6
                  go_wp2_with fail
                  refine (cloneStrings_any a n c S w4 k2 hS4 hnil).mono ?_
                  rintro e w5 ⟨a', c', rfl, hb5⟩
                  have hX5 := hX4.below hX4.lt hb5
                  have hB5 : Below w.heap.size w w5 := hB4.trans (hb5.mono hB4.size)
                  clear hB4 hS4 hX4 hb5 c0 c1 c2 c3 c4 c5 c6 c7 c8 c9 f9
                  obtain ⟨_, _, _, _, _, _, _, _, _, c9, f9⟩ := hX5.cells
                  have hX6 := hX5.set a' n c'
                  obtain ⟨d0, d1, d2, d3, d4, d5, d6, d7, d8, d9, _⟩ := hX6.cells
                  have hB6 : Below w.heap.size w (w5.setCell ⟨w.heap.size, 9, none⟩ (.slice a' n c')) := hB5.setCell (by simp) _
                  go_wp2_with fail
                  clear c9 f9 hX5 hX6
                  generalize w5.setCell ⟨w.heap.size, 9, none⟩ (.slice a' n c') = w6 at *
                  refine (mkDialect_any nm pm q mp false b1 b2 b3 b4 a' n c' _).mono ?_
                  rintro e w7 ⟨d, rfl, hb7, hD7⟩
                  have hB7 : Below w.heap.size w w7 := hB6.trans (hb7.mono hB6.size)
                  clear hB6 hb7 d0 d1 d2 d3 d4 d5 d6 d7 d8 d9 hB5
                  go_wp2_with fail
                  refine (zzRows_any d pm false ⟨#[]⟩ (x + y) m w7 hD7 ((ht'.on hB7).here) (by decide) k1 k5 HK6.out).mono ?_
                  rintro e w8 ⟨rfl, hb8⟩
                  have hB8 : Below w.heap.size w w8 := hB7.trans (hb8.mono hB7.size)
                  have hD8 := (hD7.below hb8).wide hb8.size
                  clear hb8 hD7 hB7
                  have HL : Hid _ := law7 pm x y m (by omega) (by omega)
                  have z1 := outT_size (nb := false) (pre := ⟨#[]⟩) (rows := x) (n := m) k1 (by decide) (by omega) (mulMono HK6.out (by omega))
                  have z2 := outT_size (nb := false) (pre := ⟨#[]⟩) (rows := y) (n := m) k1 (by decide) (by omega) (mulMono HK6.out (by omega))
                  generalize ByteArray.mk (outT pm false ⟨#[]⟩ (x + y) m).toArray = s0 at *
                  go_wp2_with fail
                  refine (zzRows_any d pm false ⟨#[]⟩ x m w8 hD8 ((ht'.on hB8).here) (by decide) k1 (by omega) (mulMono HK6.out (by omega))).mono ?_
                  rintro e w9 ⟨rfl, hb9⟩
                  have hB9 : Below w.heap.size w w9 := hB8.trans (hb9.mono hB8.size)
                  have hD9 := (hD8.below hb9).wide hb9.size
                  clear hb9 hD8 hB8
                  generalize ByteArray.mk (outT pm false ⟨#[]⟩ x m).toArray = s1 at *
                  go_wp2_with fail
                  refine (zzRows_any d pm false ⟨#[]⟩ y m w9 hD9 ((ht'.on hB9).here) (by decide) k1 (by omega) (mulMono HK6.out (by omega))).mono ?_
                  rintro e w10 ⟨rfl, hb10⟩
                  have hB10 : Below w.heap.size w w10 := hB9.trans (hb10.mono hB9.size)
                  clear hb10 hD9 hB9
                  generalize ByteArray.mk (outT pm false ⟨#[]⟩ y m).toArray = s2 at *
                  go_wp2_with fail
                  go_ret
                  exact ⟨by rw [HL.out]; simp, hB10⟩
            · have y0d : decide (y < 1) = true := by simp; omega
              go_wp2_with fail
              go_ret
              exact ⟨rfl, hB2⟩
          · have x0d : decide (x < 1) = true := by simp; omega
            go_wp2_with fail
            go_ret
            exact ⟨rfl, hB2⟩
        · have y1d : decide (65536 < y) = true := by simp; omega
          go_wp2_with fail
          go_ret
          exact ⟨rfl, hB2⟩
      · have x1d : decide (65536 < x) = true := by simp; omega
        go_wp2_with fail
        go_ret
        exact ⟨rfl, hB2⟩
    · have h3d : decide (1048576 < r3) = true := by simp; omega
      go_wp2_with fail
      go_ret
      exact ⟨rfl, hB2⟩
end Go.Proofs.Qxb6602123aDoor
