/-
  FnJudgeSpec: the Go text answers true.
-/
import Derived.Test.Qxb6601806aSame
import Derived.Test.Qxb6601806aPvClone
import Derived.Test.Qxb6601806aPvSize
import Derived.Test.Qxb6601806aPvSize2
import Derived.Deep.DeepCutAuto
namespace Go.Proofs.Qxb6601806a
open Go.RowKit Go
theorem PVCase.addr {w : World} {a : Option Addr} {ps : List PV} (h : PVCase w a ps) : ps.length = 0 ∨ ∃ b off, a = some ⟨b, off, none⟩ := by
  rcases h with h | ⟨b, off, lo, h1, _⟩
  · exact .inl h
  · exact .inr ⟨b, off, h1⟩
theorem resI_allB (ps qs : List PV) : verI (allB ps qs) = resI (diffs ps qs ps.length).length := by
  unfold verI allB resI
  cases diffs ps qs ps.length <;> simp
set_option maxHeartbeats 16000000 in
set_option maxRecDepth 100000 in
theorem fn7_any (s : ByteArray) (i1 i2 : Int) (v1 v2 v3 v4 : Value) (ps1 ps2 ps3 ps4 : List PV) (w : World) (hsz : s.size ≤ maxLen) (h1 : IsPVs w 0 0 v1 ps1) (h2 : IsPVs w 0 0 v2 ps2) (h3 : IsPVs w 0 0 v3 ps3) (h4 : IsPVs w 0 0 v4 ps4)
    (hf1 : PVsFit ps1) (hf2 : PVsFit ps2) (hf3 : PVsFit ps3) (hf4 : PVsFit ps4) :
    Calls Try.prog 7 #[.string s, .int .u64 i1, v1, v2, .int .u64 i2, v3, v4] w fun e w' => e = .returned (.bool true) ∧ Below w.heap.size w w' := by
  obtain ⟨a1, c1, rfl, _, _⟩ := id h1
  obtain ⟨_, _, hcase1⟩ := h1.weak
  obtain ⟨a2, c2, rfl, _, _⟩ := id h2
  obtain ⟨_, _, hcase2⟩ := h2.weak
  obtain ⟨a3, c3, rfl, _, _⟩ := id h3
  obtain ⟨_, _, hcase3⟩ := h3.weak
  obtain ⟨a4, c4, rfl, _, _⟩ := id h4
  obtain ⟨_, _, hcase4⟩ := h4.weak
  have q45 : ∀ (w : World) (a : Option Addr) (n c n' c' : Nat), (binOp .eql 45 (.slice a n c) (.slice none n' c')).run Try.prog w = .ok (.bool a.isNone) w := fun w a n c n' c' => Lib.run_eql_slice_nil w _ _ a n c n' c' Try.underlying45
  have hzz := zz23_any s i1 i2 a1 a2 a3 a4 c1 c2 c3 c4 ps1 ps2 ps3 ps4 w hsz hf1.1 hcase1 hf1.2 hf2.1 hcase2 hf2.2 hf3.1 hcase3 hf3.2 hf4.1 hcase4 hf4.2
  have hnf1 := hf1.1
  have hnf2 := hf2.1
  have hnf3 := hf3.1
  have hnf4 := hf4.1
  unfold maxLen at hsz
  go_enter Try.func7, Try.ntmps7
  go_wp2_with fail
  refine hzz.mono ?_
  rintro e w1 ⟨r, rfl, hw1, hr⟩
  obtain rfl := hw1.symm
  clear hzz hw1
  cases r with
  | false =>
    go_wp2
    go_ret
    exact ⟨rfl, Below.refl _ _⟩
  | true =>
    obtain ⟨hss, hs1, hs2, hs3, hs4⟩ := hr rfl
    clear hr hf1 hf2 hf3 hf4
    have hnb1 := hs1.1
    have hnb2 := hs2.1
    have hnb3 := hs3.1
    have hnb4 := hs4.1
    go_wp2_with fail
    refine (pvSize_any a1 c1 ps1 _ hs1 hcase1).mono ?_
    rintro e w1 ⟨r1, rfl, hw1, hr10, hr11⟩
    obtain rfl := hw1.symm
    clear hw1
    go_wp2_with fail
    refine (pvSize_any a2 c2 ps2 _ hs2 hcase2).mono ?_
    rintro e w1 ⟨r2, rfl, hw1, hr20, hr21⟩
    obtain rfl := hw1.symm
    clear hw1
    go_wp2_with fail
    refine (pvSize_any a3 c3 ps3 _ hs3 hcase3).mono ?_
    rintro e w1 ⟨r3, rfl, hw1, hr30, hr31⟩
    obtain rfl := hw1.symm
    clear hw1
    go_wp2_with fail
    refine (pvSize_any a4 c4 ps4 _ hs4 hcase4).mono ?_
    rintro e w1 ⟨r4, rfl, hw1, hr40, hr41⟩
    obtain rfl := hw1.symm
    clear hw1
    by_cases hbig : (1048576 : Int) < (s.size : Int) + r1 + r2 + r3 + r4
    · go_wp2
      go_ret
      exact ⟨rfl, Below.refl _ _⟩
    · clear hcase1 hcase2 hcase3 hcase4
      by_cases hsh1 : ps3.length < ps1.length
      · go_wp2
        go_ret
        exact ⟨rfl, Below.refl _ _⟩
      by_cases hsh2 : ps4.length < ps2.length
      · go_wp2
        go_ret
        exact ⟨rfl, Below.refl _ _⟩
      have hle1 : ps1.length ≤ ps3.length := by omega
      have hle2 : ps2.length ≤ ps4.length := by omega
      have hB : Below w.heap.size w w := Below.refl _ _
      go_wp2_with fail
      refine (clonePVs_any _ ps1 0 0 _ h1 hs1).mono ?_
      rintro e k1w ⟨x1, d1, rfl, hb, hx1⟩
      clear h1
      replace h2 := h2.below hb
      replace h3 := h3.below hb
      replace h4 := h4.below hb
      replace hB := hB.trans (hb.mono hB.size)
      clear hb
      go_wp2_with fail
      refine (clonePVs_any _ ps2 0 0 _ h2 hs2).mono ?_
      rintro e k2w ⟨x2, d2, rfl, hb, hx2⟩
      clear h2
      replace hx1 := hx1.below hb
      replace h3 := h3.below hb
      replace h4 := h4.below hb
      replace hB := hB.trans (hb.mono hB.size)
      clear hb
      go_wp2_with fail
      refine (clonePVs_any _ ps3 0 0 _ h3 hs3).mono ?_
      rintro e k3w ⟨x3, d3, rfl, hb, hx3⟩
      clear h3
      replace hx1 := hx1.below hb
      replace hx2 := hx2.below hb
      replace h4 := h4.below hb
      replace hB := hB.trans (hb.mono hB.size)
      clear hb
      go_wp2_with fail
      refine (clonePVs_any _ ps4 0 0 _ h4 hs4).mono ?_
      rintro e k4w ⟨x4, d4, rfl, hb, hx4⟩
      clear h4
      replace hx1 := hx1.below hb
      replace hx2 := hx2.below hb
      replace hx3 := hx3.below hb
      replace hB := hB.trans (hb.mono hB.size)
      clear hb
      go_wp2_with fail
      refine (toValues_any _ ps1 _ _ _ hx1 hs1).mono ?_
      rintro e t1w ⟨y1, e1, rfl, hb, hy1⟩
      replace hx1 := hx1.below hb
      replace hx2 := hx2.below hb
      replace hx3 := hx3.below hb
      replace hx4 := hx4.below hb
      replace hB := hB.trans (hb.mono hB.size)
      clear hb
      go_wp2_with fail
      refine (toValues_any _ ps2 _ _ _ hx2 hs2).mono ?_
      rintro e t2w ⟨y2, e2, rfl, hb, hy2⟩
      replace hx1 := hx1.below hb
      replace hx2 := hx2.below hb
      replace hx3 := hx3.below hb
      replace hx4 := hx4.below hb
      replace hy1 := hy1.below hb
      replace hB := hB.trans (hb.mono hB.size)
      clear hb
      go_wp2_with fail
      have hbx : Below t2w.heap.size t2w (t2w.alloc (Obj.cells #[Value.slice y1 ps1.length e1, Value.slice y2 ps2.length e2] 55)) := (Below.refl _ _).alloc (Nat.le_refl _) _
      have k0 : (t2w.alloc (Obj.cells #[Value.slice y1 ps1.length e1, Value.slice y2 ps2.length e2] 55)).cell? ⟨t2w.heap.size, 0, none⟩ = some (.slice y1 ps1.length e1) := by simp
      have k1 : (t2w.alloc (Obj.cells #[Value.slice y1 ps1.length e1, Value.slice y2 ps2.length e2] 55)).cell? ⟨t2w.heap.size, 0 + 1, none⟩ = some (.slice y2 ps2.length e2) := by simp
      generalize hW : t2w.alloc (Obj.cells #[Value.slice y1 ps1.length e1, Value.slice y2 ps2.length e2] 55) = b1w at *
      clear hW
      generalize hbn : t2w.heap.size = bA at *
      replace hx1 := hx1.below (hbn ▸ hbx)
      replace hx2 := hx2.below (hbn ▸ hbx)
      replace hx3 := hx3.below (hbn ▸ hbx)
      replace hx4 := hx4.below (hbn ▸ hbx)
      replace hy1 := hy1.below (hbn ▸ hbx)
      replace hy2 := hy2.below (hbn ▸ hbx)
      replace hB := hB.trans (hbx.mono (by have := hB.size; omega))
      clear hbx hbn
      refine (toValues_any _ ps3 _ _ _ hx3 hs3).mono ?_
      rintro e t3w ⟨y3, e3, rfl, hb, hy3⟩
      replace hx1 := hx1.below hb
      replace hx2 := hx2.below hb
      replace hx3 := hx3.below hb
      replace hx4 := hx4.below hb
      replace hy1 := hy1.below hb
      replace hy2 := hy2.below hb
      replace k0 := below_cell' hb k0
      replace k1 := below_cell' hb k1
      replace hB := hB.trans (hb.mono hB.size)
      clear hb
      go_wp2_with fail
      refine (toValues_any _ ps4 _ _ _ hx4 hs4).mono ?_
      rintro e t4w ⟨y4, e4, rfl, hb, hy4⟩
      replace hx1 := hx1.below hb
      replace hx2 := hx2.below hb
      replace hx3 := hx3.below hb
      replace hx4 := hx4.below hb
      replace hy1 := hy1.below hb
      replace hy2 := hy2.below hb
      replace hy3 := hy3.below hb
      replace k0 := below_cell' hb k0
      replace k1 := below_cell' hb k1
      replace hB := hB.trans (hb.mono hB.size)
      clear hb
      go_wp2_with fail
      have hbx : Below t4w.heap.size t4w (t4w.alloc (Obj.cells #[Value.slice y3 ps3.length e3, Value.slice y4 ps4.length e4] 55)) := (Below.refl _ _).alloc (Nat.le_refl _) _
      have m0 : (t4w.alloc (Obj.cells #[Value.slice y3 ps3.length e3, Value.slice y4 ps4.length e4] 55)).cell? ⟨t4w.heap.size, 0, none⟩ = some (.slice y3 ps3.length e3) := by simp
      have m1 : (t4w.alloc (Obj.cells #[Value.slice y3 ps3.length e3, Value.slice y4 ps4.length e4] 55)).cell? ⟨t4w.heap.size, 0 + 1, none⟩ = some (.slice y4 ps4.length e4) := by simp
      generalize hW : t4w.alloc (Obj.cells #[Value.slice y3 ps3.length e3, Value.slice y4 ps4.length e4] 55) = b2w at *
      clear hW
      generalize hbn : t4w.heap.size = bB at *
      replace hx1 := hx1.below (hbn ▸ hbx)
      replace hx2 := hx2.below (hbn ▸ hbx)
      replace hx3 := hx3.below (hbn ▸ hbx)
      replace hx4 := hx4.below (hbn ▸ hbx)
      replace hy1 := hy1.below (hbn ▸ hbx)
      replace hy2 := hy2.below (hbn ▸ hbx)
      replace hy3 := hy3.below (hbn ▸ hbx)
      replace hy4 := hy4.below (hbn ▸ hbx)
      replace k0 := below_cell' (hbn ▸ hbx) k0
      replace k1 := below_cell' (hbn ▸ hbx) k1
      replace hB := hB.trans (hbx.mono (by have := hB.size; omega))
      clear hbx hbn
      obtain ⟨_, _, cy1⟩ := hy1.weak
      obtain ⟨_, _, cx1⟩ := hx1.weak
      obtain ⟨_, _, cy2⟩ := hy2.weak
      obtain ⟨_, _, cx2⟩ := hx2.weak
      obtain ⟨_, _, cy3⟩ := hy3.weak
      obtain ⟨_, _, cx3⟩ := hx3.weak
      obtain ⟨_, _, cy4⟩ := hy4.weak
      obtain ⟨_, _, cx4⟩ := hx4.weak
      clear hy1 hy2 hy3 hy4 hx1 hx2 hx3 hx4
      refine (zzJudge_any s i1 i2 bA 0 bB 0 y1 y2 y3 y4 e1 e2 e3 e4 ps1 ps2 ps3 ps4 _ hs1.1 hs2.1 hle1 hle2 k0 k1 m0 m1 cy1 cy2 cy3 cy4).mono ?_
      rintro e wj ⟨p1, p2, rfl, hb, hp1, hp2, hrec⟩
      replace cx1 := cx1.below hb
      replace cx2 := cx2.below hb
      replace cx3 := cx3.below hb
      replace cx4 := cx4.below hb
      replace k0 := below_cell' hb k0
      replace k1 := below_cell' hb k1
      replace hB := hB.trans (hb.mono hB.size)
      have sh1 := cy1.addr
      have sh2 := cy2.addr
      generalize hbR : b2w.heap.size = R at *
      clear hb hbR cy1 cy2 cy3 cy4 m0 m1
      obtain ⟨gp1, cp1, rfl, _, hcp1⟩ := hp1
      obtain ⟨gp2, cp2, rfl, _, hcp2⟩ := hp2
      have r0 : wj.cell? ⟨R, 0, none⟩ = some (.string s) := hrec.cell (i := 0) (by omega)
      have r1' : wj.cell? ⟨R, 1, none⟩ = some (.int .u64 i1) := hrec.cell (i := 1) (by omega)
      have r2' : wj.cell? ⟨R, 2, none⟩ = some (.int .u64 i2) := hrec.cell (i := 2) (by omega)
      have r3' : wj.cell? ⟨R, 3, none⟩ = some (.int .i64 (resI (diffs ps1 ps3 ps1.length).length)) := hrec.cell (i := 3) (by omega)
      have r4' : wj.cell? ⟨R, 4, none⟩ = some (.int .i64 (resI (diffs ps2 ps4 ps2.length).length)) := hrec.cell (i := 4) (by omega)
      have r5' : wj.cell? ⟨R, 5, none⟩ = some (.slice y1 ps1.length e1) := hrec.cell (i := 5) (by omega)
      have r6' : wj.cell? ⟨R, 6, none⟩ = some (.slice y2 ps2.length e2) := hrec.cell (i := 6) (by omega)
      have r7' : wj.cell? ⟨R, 7, none⟩ = some (.slice (some ⟨gp1, 0, none⟩) (diffs ps1 ps3 ps1.length).length cp1) := hrec.cell (i := 7) (by omega)
      have r8' : wj.cell? ⟨R, 8, none⟩ = some (.slice (some ⟨gp2, 0, none⟩) (diffs ps2 ps4 ps2.length).length cp2) := hrec.cell (i := 8) (by omega)
      clear hrec
      have hv1 := resI_allB ps1 ps3
      have hv2 := resI_allB ps2 ps4
      go_wp2
      go_quiet ((go_at_call 25; refine Calls.quiet_of (sharesList_any _ _ _ _ ?_ ?_) <;> assumption))
      go_wp2_with fail
      refine (isDiffList_any gp1 cp1 x1 x3 d1 d3 ps1 ps3 _ hs1 hs3 hle1 (by exact cx1) (by exact cx3) (by exact hcp1)).mono ?_
      rintro e wk ⟨rfl, nk, hwk⟩
      replace hwk : wk = wj.drewN (_ + nk) := hwk.trans (World.drewN_drewN _ _ _)
      have s3' : wk.cell? ⟨R, 3, none⟩ = some (.int .i64 (resI (diffs ps1 ps3 ps1.length).length)) := by rw [hwk]; exact r3'
      have s4' : wk.cell? ⟨R, 4, none⟩ = some (.int .i64 (resI (diffs ps2 ps4 ps2.length).length)) := by rw [hwk]; exact r4'
      have s8' : wk.cell? ⟨R, 8, none⟩ = some (.slice (some ⟨gp2, 0, none⟩) (diffs ps2 ps4 ps2.length).length cp2) := by rw [hwk]; exact r8'
      have ex1 : PVCase wk x1 ps1 := by rw [hwk]; exact cx1
      have ex2 : PVCase wk x2 ps2 := by rw [hwk]; exact cx2
      have ex3 : PVCase wk x3 ps3 := by rw [hwk]; exact cx3
      have ex4 : PVCase wk x4 ps4 := by rw [hwk]; exact cx4
      have ecp2 : ∀ i, i < (diffs ps2 ps4 ps2.length).length → wk.cell? ⟨gp2, i, none⟩ = some (.int .u32 ((diffs ps2 ps4 ps2.length).getD i 0)) := by rw [hwk]; exact hcp2
      replace hB : Below w.heap.size w wk := by rw [hwk]; exact below_drewN hB _
      clear hwk r0 r1' r2' r3' r4' r5' r6' r7' r8' cx1 cx2 cx3 cx4 hcp1 hcp2 k0 k1 sh1 sh2
      go_wp2_with fail
      refine (isDiffList_any gp2 cp2 x2 x4 d2 d4 ps2 ps4 _ hs2 hs4 hle2 ex2 ex4 ecp2).mono ?_
      rintro e wl ⟨rfl, nl, hwl⟩
      have t3' : wl.cell? ⟨R, 3, none⟩ = some (.int .i64 (resI (diffs ps1 ps3 ps1.length).length)) := by rw [hwl]; exact s3'
      have t4' : wl.cell? ⟨R, 4, none⟩ = some (.int .i64 (resI (diffs ps2 ps4 ps2.length).length)) := by rw [hwl]; exact s4'
      replace ex1 : PVCase wl x1 ps1 := by rw [hwl]; exact ex1
      replace ex2 : PVCase wl x2 ps2 := by rw [hwl]; exact ex2
      replace ex3 : PVCase wl x3 ps3 := by rw [hwl]; exact ex3
      replace ex4 : PVCase wl x4 ps4 := by rw [hwl]; exact ex4
      replace hB : Below w.heap.size w wl := by rw [hwl]; exact below_drewN hB _
      clear hwl s3' s4' s8' ecp2
      go_upto_region 26 with fail
      go_cut [191] (fun s wx => s = .bool false ∧ ∃ n, wx = wl.drewN n)
      case first =>
        go_quiet (first | (go_at_call 28; exact Calls.quiet_of (allSame_any x1 x3 d1 d3 ps1 ps3 _ hs1 hs3 hle1 (by exact ex1) (by exact ex3))) | (go_at_call 27; exact Calls.quiet_of_same (verdictOf_any _ _)))
        go_wp2
        go_meet
        exact ⟨rfl, _, rfl⟩
      case rest =>
        obtain ⟨rfl, nn, hwc⟩ := hcut
        have u4' : wc.cell? ⟨R, 4, none⟩ = some (.int .i64 (resI (diffs ps2 ps4 ps2.length).length)) := by rw [hwc]; exact t4'
        replace ex2 : PVCase wc x2 ps2 := by rw [hwc]; exact ex2
        replace ex4 : PVCase wc x4 ps4 := by rw [hwc]; exact ex4
        replace hB : Below w.heap.size w wc := by rw [hwc]; exact below_drewN hB _
        clear hwc t3' t4' ex1 ex3
        go_wp2
        go_quiet (first | (go_at_call 28; exact Calls.quiet_of (allSame_any x2 x4 d2 d4 ps2 ps4 _ hs2 hs4 hle2 (by exact ex2) (by exact ex4))) | (go_at_call 27; exact Calls.quiet_of_same (verdictOf_any _ _)))
        go_wp2
        go_ret
        exact ⟨rfl, below_drewN hB _⟩
end Go.Proofs.Qxb6601806a
