/-
  FnJudgeSelf: the Go text answers true.
-/
import Derived.Test.Qxb6601806aJudge
import Derived.Test.Qxb6601806aPvClone
import Derived.Test.Qxb6601806aPvTo
import Derived.Test.Qxb6601806aPvSize
namespace Go.Proofs.Qxb6601806a
open Go.RowKit Go
theorem diffs_self (ps : List PV) (k : Nat) : diffs ps ps k = [] := by
  induction k with
  | zero => rfl
  | succ k ih => rw [diffs_yes (by simp [sameB]), ih]
theorem resI_zero : resI 0 = 0 := rfl
set_option maxHeartbeats 8000000 in
set_option maxRecDepth 100000 in
theorem fn8_any (s : ByteArray) (i1 i2 : Int) (v1 v2 : Value) (ps1 ps2 : List PV) (w : World) (hsz : s.size ≤ maxLen) (h1 : IsPVs w 0 0 v1 ps1) (h2 : IsPVs w 0 0 v2 ps2) (hf1 : PVsFit ps1) (hf2 : PVsFit ps2) :
    Calls Try.prog 8 #[.string s, .int .u64 i1, v1, v2, .int .u64 i2] w fun e w' => e = .returned (.bool true) ∧ Below w.heap.size w w' := by
  have h1' := h1
  have h2' := h2
  obtain ⟨a1, c1, rfl, hc1, _⟩ := h1'
  obtain ⟨a2, c2, rfl, hc2, _⟩ := h2'
  obtain ⟨_, _, hcase1⟩ := h1.weak
  obtain ⟨_, _, hcase2⟩ := h2.weak
  have q45 : ∀ (w : World) (a : Option Addr) (n c n' c' : Nat), (binOp .eql 45 (.slice a n c) (.slice none n' c')).run Try.prog w = .ok (.bool a.isNone) w := fun w a n c n' c' => Lib.run_eql_slice_nil w _ _ a n c n' c' Try.underlying45
  have hzz := zz29_any s i1 i2 a1 a2 c1 c2 ps1 ps2 w hsz hf1.1 hcase1 hf1.2 hf2.1 hcase2 hf2.2
  have hnf1 := hf1.1
  have hnf2 := hf2.1
  unfold maxLen at hsz
  go_enter Try.func8, Try.ntmps8
  go_wp2_with fail
  refine hzz.mono ?_
  rintro e w1 ⟨r, rfl, hw1, hr⟩
  obtain rfl := hw1.symm
  clear hzz hw1
  cases r with
  | false =>
    go_wp2
    go_ret
    exact ⟨rfl, Below.refl _ _⟩
  | true =>
    obtain ⟨hss, hs1, hs2⟩ := hr rfl
    clear hr hf1 hf2
    have hnb1 := hs1.1
    have hnb2 := hs2.1
    go_wp2_with fail
    refine (pvSize_any a1 c1 ps1 _ hs1 hcase1).mono ?_
    rintro e w1 ⟨r1, rfl, hw1, hr10, hr11⟩
    obtain rfl := hw1.symm
    clear hw1
    go_wp2_with fail
    refine (pvSize_any a2 c2 ps2 _ hs2 hcase2).mono ?_
    rintro e w1 ⟨r2, rfl, hw1, hr20, hr21⟩
    obtain rfl := hw1.symm
    clear hw1
    by_cases hbig : (1048576 : Int) < (s.size : Int) + r1 + r2
    · go_wp2
      go_ret
      exact ⟨rfl, Below.refl _ _⟩
    · clear hcase1 hcase2
      go_wp2_with fail
      refine (clonePVs_any _ ps1 0 0 _ h1 hs1).mono ?_
      rintro e w1 ⟨x1, d1, rfl, hb1, hx1⟩
      replace h2 := h2.below hb1
      clear h1
      go_wp2_with fail
      refine (clonePVs_any _ ps2 0 0 _ h2 hs2).mono ?_
      rintro e w2 ⟨x2, d2, rfl, hb2, hx2⟩
      clear h2
      replace hx1 := hx1.below hb2
      have hB := hb1.trans (hb2.mono hb1.size)
      clear hb1 hb2
      go_wp2_with fail
      refine (toValues_any _ ps1 _ _ _ hx1 hs1).mono ?_
      rintro e w3 ⟨y1, e1, rfl, hb3, hy1⟩
      replace hx1 := hx1.below hb3
      replace hx2 := hx2.below hb3
      replace hB := hB.trans (hb3.mono hB.size)
      clear hb3
      go_wp2_with fail
      refine (toValues_any _ ps2 _ _ _ hx2 hs2).mono ?_
      rintro e w4 ⟨y2, e2, rfl, hb4, hy2⟩
      replace hx1 := hx1.below hb4
      replace hx2 := hx2.below hb4
      replace hy1 := hy1.below hb4
      replace hB := hB.trans (hb4.mono hB.size)
      clear hb4
      go_wp2_with fail
      have hbx : Below w4.heap.size w4 (w4.alloc (Obj.cells #[Value.slice y1 ps1.length e1, Value.slice y2 ps2.length e2] 55)) := (Below.refl _ _).alloc (Nat.le_refl _) _
      have k0 : (w4.alloc (Obj.cells #[Value.slice y1 ps1.length e1, Value.slice y2 ps2.length e2] 55)).cell? ⟨w4.heap.size, 0, none⟩ = some (.slice y1 ps1.length e1) := by simp
      have k1 : (w4.alloc (Obj.cells #[Value.slice y1 ps1.length e1, Value.slice y2 ps2.length e2] 55)).cell? ⟨w4.heap.size, 0 + 1, none⟩ = some (.slice y2 ps2.length e2) := by simp
      generalize hW5 : w4.alloc (Obj.cells #[Value.slice y1 ps1.length e1, Value.slice y2 ps2.length e2] 55) = w5 at *
      clear hW5
      generalize hb4 : w4.heap.size = b4 at *
      replace hx1 := hx1.below (hb4 ▸ hbx)
      replace hx2 := hx2.below (hb4 ▸ hbx)
      replace hy1 := hy1.below (hb4 ▸ hbx)
      replace hy2 := hy2.below (hb4 ▸ hbx)
      replace hB := hB.trans (hbx.mono (by have := hB.size; omega))
      clear hbx
      refine (toValues_any _ ps1 _ _ _ hx1 hs1).mono ?_
      rintro e w6 ⟨z1, f1, rfl, hb6, hz1⟩
      replace hx2 := hx2.below hb6
      replace hy1 := hy1.below hb6
      replace hy2 := hy2.below hb6
      replace hB := hB.trans (hb6.mono hB.size)
      replace k0 := below_cell' hb6 k0
      replace k1 := below_cell' hb6 k1
      clear hb6 hx1
      go_wp2_with fail
      refine (toValues_any _ ps2 _ _ _ hx2 hs2).mono ?_
      rintro e w7 ⟨z2, f2, rfl, hb7, hz2⟩
      replace hy1 := hy1.below hb7
      replace hy2 := hy2.below hb7
      replace hz1 := hz1.below hb7
      replace hB := hB.trans (hb7.mono hB.size)
      replace k0 := below_cell' hb7 k0
      replace k1 := below_cell' hb7 k1
      clear hb7 hx2
      go_wp2_with fail
      have hbx : Below w7.heap.size w7 (w7.alloc (Obj.cells #[Value.slice z1 ps1.length f1, Value.slice z2 ps2.length f2] 55)) := (Below.refl _ _).alloc (Nat.le_refl _) _
      have m0 : (w7.alloc (Obj.cells #[Value.slice z1 ps1.length f1, Value.slice z2 ps2.length f2] 55)).cell? ⟨w7.heap.size, 0, none⟩ = some (.slice z1 ps1.length f1) := by simp
      have m1 : (w7.alloc (Obj.cells #[Value.slice z1 ps1.length f1, Value.slice z2 ps2.length f2] 55)).cell? ⟨w7.heap.size, 0 + 1, none⟩ = some (.slice z2 ps2.length f2) := by simp
      generalize hW8 : w7.alloc (Obj.cells #[Value.slice z1 ps1.length f1, Value.slice z2 ps2.length f2] 55) = w8 at *
      clear hW8
      generalize hb7 : w7.heap.size = b7 at *
      replace hy1 := hy1.below (hb7 ▸ hbx)
      replace hy2 := hy2.below (hb7 ▸ hbx)
      replace hz1 := hz1.below (hb7 ▸ hbx)
      replace hz2 := hz2.below (hb7 ▸ hbx)
      replace k0 := below_cell' (hb7 ▸ hbx) k0
      replace k1 := below_cell' (hb7 ▸ hbx) k1
      replace hB := hB.trans (hbx.mono (by have := hB.size; omega))
      clear hbx
      obtain ⟨_, _, cy1⟩ := hy1.weak
      obtain ⟨_, _, cy2⟩ := hy2.weak
      obtain ⟨_, _, cz1⟩ := hz1.weak
      obtain ⟨_, _, cz2⟩ := hz2.weak
      clear hy1 hy2 hz1 hz2
      refine (zzJudge_any s i1 i2 b4 0 b7 0 y1 y2 z1 z2 e1 e2 f1 f2 ps1 ps2 ps1 ps2 _ hs1.1 hs2.1 (Nat.le_refl _) (Nat.le_refl _) k0 k1 m0 m1 cy1 cy2 cz1 cz2).mono ?_
      rintro e w9 ⟨p1, p2, rfl, hb9, hp1, hp2, hrec⟩
      simp only [diffs_self, List.length_nil, resI_zero] at hp1 hp2 hrec
      replace cy1 := cy1.below hb9
      replace cy2 := cy2.below hb9
      replace k0 := below_cell' hb9 k0
      replace k1 := below_cell' hb9 k1
      replace hB := hB.trans (hb9.mono hB.size)
      generalize hb8 : w8.heap.size = b8 at *
      clear hb9 hb8 cz1 cz2 m0 m1
      go_wp2_with fail
      refine (zzJudge_any s i1 i2 b4 0 b4 0 y1 y2 y1 y2 e1 e2 e1 e2 ps1 ps2 ps1 ps2 _ hs1.1 hs2.1 (Nat.le_refl _) (Nat.le_refl _) k0 k1 k0 k1 cy1 cy2 cy1 cy2).mono ?_
      rintro e w10 ⟨q1, q2, rfl, hb10, hq1, hq2, hrec2⟩
      simp only [diffs_self, List.length_nil, resI_zero] at hq1 hq2 hrec2
      obtain ⟨gp1, cp1, rfl, _⟩ := hp1
      obtain ⟨gp2, cp2, rfl, _⟩ := hp2
      obtain ⟨gq1, cq1, rfl, _⟩ := hq1
      obtain ⟨gq2, cq2, rfl, _⟩ := hq2
      have r3 : w10.cell? ⟨b8, 3, none⟩ = some (.int .i64 0) := below_cell' hb10 (hrec.cell (i := 3) (by omega))
      have r4 : w10.cell? ⟨b8, 4, none⟩ = some (.int .i64 0) := below_cell' hb10 (hrec.cell (i := 4) (by omega))
      have r7 : w10.cell? ⟨b8, 7, none⟩ = some (.slice (some ⟨gp1, 0, none⟩) 0 cp1) := below_cell' hb10 (hrec.cell (i := 7) (by omega))
      have r8 : w10.cell? ⟨b8, 8, none⟩ = some (.slice (some ⟨gp2, 0, none⟩) 0 cp2) := below_cell' hb10 (hrec.cell (i := 8) (by omega))
      have t3 : w10.cell? ⟨w9.heap.size, 3, none⟩ = some (.int .i64 0) := hrec2.cell (i := 3) (by omega)
      have t4 : w10.cell? ⟨w9.heap.size, 4, none⟩ = some (.int .i64 0) := hrec2.cell (i := 4) (by omega)
      have t7 : w10.cell? ⟨w9.heap.size, 7, none⟩ = some (.slice (some ⟨gq1, 0, none⟩) 0 cq1) := hrec2.cell (i := 7) (by omega)
      have t8 : w10.cell? ⟨w9.heap.size, 8, none⟩ = some (.slice (some ⟨gq2, 0, none⟩) 0 cq2) := hrec2.cell (i := 8) (by omega)
      replace hB := hB.trans (hb10.mono hB.size)
      clear hrec hrec2 hb10 k0 k1 cy1 cy2
      go_wp2
      go_ret
      exact ⟨rfl, hB⟩
end Go.Proofs.Qxb6601806a
