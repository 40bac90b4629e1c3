/-
  FnWriteRowsSpec: the walk.
-/
import Derived.Test.Qxb6602123aDoorModel
namespace Go.Proofs.Qxb6602123aDoor
open Go.RowKit Go
set_option maxHeartbeats 4000000 in
set_option maxRecDepth 100000 in
theorem fn5_any (nm pm : ByteArray) (q mp : Int) (nb b1 b2 b3 b4 : Bool) (a : Option Addr) (n c : Nat) (S : Nat → ByteArray) (pre : ByteArray) (x m : Int) (w : World) (hS : Strs w a n S) (hnil : a = none → n = 0) (hnm : nm.size ≤ maxLen) (hpm : pm.size ≤ maxLen) (hn : n ≤ maxLen) (hpre : pre.size ≤ maxLen)
    (_hx : -9223372036854775808 ≤ x ∧ x ≤ 9223372036854775807) (hm : -9223372036854775808 ≤ m ∧ m ≤ 9223372036854775807)
    (ht : Lib.TabIs Tryd.prog w "internal/strconv.uint64pow10" .u64 Lib.pow10Tab) :
    Calls Tryd.prog 5 #[.agg #[.string nm, .int .u8 q, .string pm, .bool nb, .int .i64 mp, .bool b1, .bool b2, .bool b3, .bool b4, .slice a n c], .string pre, .int .i64 x, .int .i64 m] w fun e w' => e = .returned (.bool true) ∧ Below w.heap.size w w' := by
  have hBel : Below w.heap.size w (w.alloc (.cells #[.string nm, .int .u8 q, .string pm, .bool nb, .int .i64 mp, .bool b1, .bool b2, .bool b3, .bool b4, .slice a n c] 24)) := (Below.refl _ _).alloc (Nat.le_refl _) _
  have hS1 := hS.below hBel
  have ht' := Lib.tabBelow_of_tabIs ht
  have hX := Box.new w nm pm q mp nb b1 b2 b3 b4 a n c
  go_enter Tryd.func5, Tryd.ntmps5
  go_wp2_with fail
  refine (zz20_any nm pm q mp nb b1 b2 b3 b4 a n c S pre x m _ hS1 hnm hpm hn hpre).mono ?_
  rintro e w1 ⟨r1, rfl, hb1, hr1⟩
  have hX1 := hX.below hX.lt hb1
  have hB1 : Below w.heap.size w w1 := hBel.trans (hb1.mono (by simp))
  have hS2 := hS1.below hb1
  have HR1 : Hid (r1 = true → nm.size ≤ 1048576 ∧ pm.size ≤ 1048576 ∧ n ≤ 1048576 ∧ (∀ (i : Nat), i < n → (S i).size ≤ 1048576) ∧ pre.size ≤ 1048576) := hr1
  clear hBel hS1 hX hb1 hr1
  obtain ⟨c0, c1, c2, c3, c4, c5, c6, c7, c8, c9, _⟩ := hX1.cells
  cases r1 with
  | false =>
    go_wp2_with fail
    go_ret
    exact ⟨rfl, hB1⟩
  | true =>
    obtain ⟨k0, k1, k2, k3, kp⟩ := HR1.out rfl
    clear HR1 hnm hpm hn hpre
    have HS : Hid (∀ i, i < n → (S i).size ≤ 1048576) := k3
    clear k3
    go_wp2_with fail
    refine (bigRows_any nm pm q mp nb b1 b2 b3 b4 a n c S pre x m _ hS2 k0 k1 k2 HS.out kp (by omega)).mono ?_
    rintro e w4 ⟨r4, rfl, hb4, hr4⟩
    have hX4 := hX1.below hX1.lt hb4
    have hB4 : Below w.heap.size w w4 := hB1.trans (hb4.mono hB1.size)
    have hS4 := hS2.below hb4
    have HR4 : Hid (r4 = false → x ≤ 65536 ∧ x.toNat * m.toNat ≤ 65536) := hr4
    clear hB1 hS2 hX1 hb4 hr4 c0 c1 c2 c3 c4 c5 c6 c7 c8 c9
    obtain ⟨c0, c1, c2, c3, c4, c5, c6, c7, c8, c9, f9⟩ := hX4.cells
    cases r4 with
    | true =>
      go_wp2_with fail
      go_ret
      exact ⟨rfl, hB4⟩
    | false =>
      obtain ⟨k5, k6⟩ := HR4.out rfl
      have HK6 : Hid (x.toNat * m.toNat ≤ 65536) := k6
      clear HR4 k6
      go_wp2_with fail
      refine (cloneStrings_any a n c S w4 k2 hS4 hnil).mono ?_
      rintro e w5 ⟨a', c', rfl, hb5⟩
      have hX5 := hX4.below hX4.lt hb5
      have hB5 : Below w.heap.size w w5 := hB4.trans (hb5.mono hB4.size)
      clear hB4 hS4 hX4 hb5 c0 c1 c2 c3 c4 c5 c6 c7 c8 c9 f9
      obtain ⟨_, _, _, _, _, _, _, _, _, c9, f9⟩ := hX5.cells
      have hX6 := hX5.set a' n c'
      obtain ⟨d0, d1, d2, d3, d4, d5, d6, d7, d8, d9, _⟩ := hX6.cells
      have hB6 : Below w.heap.size w (w5.setCell ⟨w.heap.size, 9, none⟩ (.slice a' n c')) := hB5.setCell (by simp) _
      go_wp2_with fail
      clear c9 f9 hX5
      generalize w5.setCell ⟨w.heap.size, 9, none⟩ (.slice a' n c') = w6 at *
      refine (mkDialect_any nm pm q mp nb b1 b2 b3 b4 a' n c' _).mono ?_
      rintro e w7 ⟨d, rfl, hb7, hD7⟩
      have hB7 : Below w.heap.size w w7 := hB6.trans (hb7.mono hB6.size)
      have hX7 := hX6.below hX6.lt hb7
      clear hB6 hb7 d0 d1 d2 d3 d4 d5 d6 d7 d8 d9 hB5 hX6
      go_wp2_with fail
      refine (zzRows_any d pm nb pre x m w7 hD7 ((ht'.on hB7).here) kp k1 k5 HK6.out).mono ?_
      rintro e w8 ⟨rfl, hb8⟩
      have hB8 : Below w.heap.size w w8 := hB7.trans (hb8.mono hB7.size)
      have hX8 := hX7.below hX7.lt hb8
      clear hb8 hD7 hB7 hX7
      obtain ⟨d0, d1, d2, d3, d4, d5, d6, d7, d8, d9, _⟩ := hX8.cells
      generalize hs : ByteArray.mk (outT pm nb pre x m).toArray = s1 at *
      have Hs : Hid (ByteArray.mk (outT pm nb pre x m).toArray = s1) := hs
      clear hs
      go_wp2_with fail
      refine (modelRows_any nm pm q mp nb b1 b2 b3 b4 a' n c' pre x m w8 k1 kp k5 HK6.out).mono ?_
      rintro e w9 ⟨rfl, hb9⟩
      have hB9 : Below w.heap.size w w9 := hB8.trans (hb9.mono hB8.size)
      clear hb9 hB8 hX8 d0 d1 d2 d3 d4 d5 d6 d7 d8 d9
      rw [Hs.out]
      go_wp2_with fail
      go_ret
      exact ⟨by simp, hB9⟩
end Go.Proofs.Qxb6602123aDoor
