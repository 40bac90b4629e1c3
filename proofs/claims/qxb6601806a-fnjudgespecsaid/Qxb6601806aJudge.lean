/-
  resultOf and judge: what the Go texts do.
-/
import Derived.Test.Qxb6601806aDiffer
import Derived.Deep.RegionHeld3
import Derived.Deep.DrawnRows
import Derived.Deep.DeepCutAuto
namespace Go.Proofs.Qxb6601806a
open Go.RowKit Go
attribute [local go_sem ↓] Go.wp_at_zero Go.wp_at_succ
def resI (n : Nat) : Int := if 0 < n then 1 else 0
set_option maxHeartbeats 800000 in
theorem resultOf_any (a : Option Addr) (n c : Nat) (w : World) : Calls Try.prog 38 #[.slice a n c] w fun e w' => e = .returned (.int .i64 (resI n)) ∧ w' = w := by
  by_cases h : 0 < n
  · go_enter Try.func38, Try.ntmps38
    go_wp2
    go_ret
    exact ⟨by simp [resI, h], rfl⟩
  · go_enter Try.func38, Try.ntmps38
    go_wp2
    go_ret
    exact ⟨by simp [resI, h], rfl⟩
/-- v is a []uint32, not nil, that holds xs, in a block from lo on. -/
def U32s (w : World) (lo : Nat) (v : Value) (xs : List Int) : Prop :=
  ∃ g c, v = .slice (some ⟨g, 0, none⟩) xs.length c ∧ lo ≤ g ∧ ∀ i, i < xs.length → w.cell? ⟨g, i, none⟩ = some (.int .u32 (xs.getD i 0))
theorem U32s.kept {w w' : World} {lo : Nat} {v : Value} {xs : List Int} (h : U32s w lo v xs) (hk : Kept lo w w') : U32s w' lo v xs := by
  obtain ⟨g, c, rfl, hg, hc⟩ := h
  exact ⟨g, c, rfl, hg, fun i hi => hk.cell hg (hc i hi)⟩
theorem U32s.below {w w' : World} {lo : Nat} {v : Value} {xs : List Int} (h : U32s w lo v xs) (hb : Below w.heap.size w w') : U32s w' lo v xs := h.kept (Kept.of_below _ hb)
theorem U32s.mono {w : World} {lo lo' : Nat} {v : Value} {xs : List Int} (h : U32s w lo v xs) (hl : lo' ≤ lo) : U32s w lo' v xs := by
  obtain ⟨g, c, rfl, hg, hc⟩ := h
  exact ⟨g, c, rfl, by omega, hc⟩
theorem U32s.of_owns {w : World} {lo : Nat} {a : Addr} {c : Nat} {xs : List Int} (h : w.ownsRow lo 30 1 (.slice (some a) xs.length c) xs.length (xs.map (Value.int .u32))) : U32s w lo (.slice (some a) xs.length c) xs := by
  rcases h.2 with ⟨h, _⟩ | ⟨g, cap, cur, hv, hg, hh, hn, hc, hs, ht⟩
  · simp at h
  · simp at hv
    obtain ⟨rfl, rfl⟩ := hv
    refine ⟨g, _, rfl, hg, fun i hi => ?_⟩
    have e := congrArg (fun l => l[i]?) ht
    simp only [Nat.mul_one, List.getElem?_map] at e
    rw [List.getElem?_take, if_pos hi] at e
    simp only [World.cell?, hh]
    rw [Array.getElem?_toList] at e
    rw [e]
    simp [List.getD, List.getElem?_eq_getElem hi]
/-- The record's nine cells. -/
def recF (s : ByteArray) (i1 i2 r3 r4 : Int) (e l d1 d2 : Value) (j : Nat) : Value :=
  match j with
  | 0 => .string s | 1 => .int .u64 i1 | 2 => .int .u64 i2 | 3 => .int .i64 r3 | 4 => .int .i64 r4 | 5 => e | 6 => l | 7 => d1 | 8 => d2 | _ => .nilFunc
theorem rec_alloc (w : World) (s : ByteArray) (i1 i2 r3 r4 : Int) (e l d1 d2 : Value) :
    (w.alloc (.cells #[.string s, .int .u64 i1, .int .u64 i2, .int .i64 r3, .int .i64 r4, e, l, d1, d2] 63)).rowIs w.heap.size 63 9 (recF s i1 i2 r3 r4 e l d1 d2) :=
  World.rowIs_alloc w #[.string s, .int .u64 i1, .int .u64 i2, .int .i64 r3, .int .i64 r4, e, l, d1, d2] 63 (recF s i1 i2 r3 r4 e l d1 d2) (fun i hi => by
    match i, hi with
    | 0, _ => rfl
    | 1, _ => rfl
    | 2, _ => rfl
    | 3, _ => rfl
    | 4, _ => rfl
    | 5, _ => rfl
    | 6, _ => rfl
    | 7, _ => rfl
    | 8, _ => rfl)
theorem rec_set7 {w : World} {R : Nat} {s : ByteArray} {i1 i2 r3 r4 : Int} {e l d1 d2 v : Value} (h : w.rowIs R 63 9 (recF s i1 i2 r3 r4 e l d1 d2)) : (w.setCell ⟨R, 7, none⟩ v).rowIs R 63 9 (recF s i1 i2 r3 r4 e l v d2) :=
  (h.set 7 v).congr (fun i hi => by
    match i, hi with
    | 0, _ => rfl
    | 1, _ => rfl
    | 2, _ => rfl
    | 3, _ => rfl
    | 4, _ => rfl
    | 5, _ => rfl
    | 6, _ => rfl
    | 7, _ => rfl
    | 8, _ => rfl)
theorem rec_set8 {w : World} {R : Nat} {s : ByteArray} {i1 i2 r3 r4 : Int} {e l d1 d2 v : Value} (h : w.rowIs R 63 9 (recF s i1 i2 r3 r4 e l d1 d2)) : (w.setCell ⟨R, 8, none⟩ v).rowIs R 63 9 (recF s i1 i2 r3 r4 e l d1 v) :=
  (h.set 8 v).congr (fun i hi => by
    match i, hi with
    | 0, _ => rfl
    | 1, _ => rfl
    | 2, _ => rfl
    | 3, _ => rfl
    | 4, _ => rfl
    | 5, _ => rfl
    | 6, _ => rfl
    | 7, _ => rfl
    | 8, _ => rfl)
theorem rec_set3 {w : World} {R : Nat} {s : ByteArray} {i1 i2 r3 r4 r : Int} {e l d1 d2 : Value} (h : w.rowIs R 63 9 (recF s i1 i2 r3 r4 e l d1 d2)) : (w.setCell ⟨R, 3, none⟩ (.int .i64 r)).rowIs R 63 9 (recF s i1 i2 r r4 e l d1 d2) :=
  (h.set 3 _).congr (fun i hi => by
    match i, hi with
    | 0, _ => rfl
    | 1, _ => rfl
    | 2, _ => rfl
    | 3, _ => rfl
    | 4, _ => rfl
    | 5, _ => rfl
    | 6, _ => rfl
    | 7, _ => rfl
    | 8, _ => rfl)
theorem rec_set4 {w : World} {R : Nat} {s : ByteArray} {i1 i2 r3 r4 r : Int} {e l d1 d2 : Value} (h : w.rowIs R 63 9 (recF s i1 i2 r3 r4 e l d1 d2)) : (w.setCell ⟨R, 4, none⟩ (.int .i64 r)).rowIs R 63 9 (recF s i1 i2 r3 r e l d1 d2) :=
  (h.set 4 _).congr (fun i hi => by
    match i, hi with
    | 0, _ => rfl
    | 1, _ => rfl
    | 2, _ => rfl
    | 3, _ => rfl
    | 4, _ => rfl
    | 5, _ => rfl
    | 6, _ => rfl
    | 7, _ => rfl
    | 8, _ => rfl)
set_option maxHeartbeats 4000000 in
set_option maxRecDepth 100000 in
theorem judge_any (s : ByteArray) (i1 i2 : Int) (bb bo sb so : Nat) (e1 l1 e2 l2 : Option Addr) (ec1 lc1 ec2 lc2 : Nat) (ps1 ps2 qs1 qs2 : List PV) (w : World)
    (hs1 : ps1.length ≤ 1048576) (hs2 : ps2.length ≤ 1048576) (hle1 : ps1.length ≤ qs1.length) (hle2 : ps2.length ≤ qs2.length)
    (hb0 : w.cell? ⟨bb, bo, none⟩ = some (.slice e1 ps1.length ec1)) (hb1 : w.cell? ⟨bb, bo + 1, none⟩ = some (.slice l1 ps2.length lc1))
    (hc0 : w.cell? ⟨sb, so, none⟩ = some (.slice e2 qs1.length ec2)) (hc1 : w.cell? ⟨sb, so + 1, none⟩ = some (.slice l2 qs2.length lc2))
    (h1 : PVCase w e1 ps1) (h2 : PVCase w l1 ps2) (h3 : PVCase w e2 qs1) (h4 : PVCase w l2 qs2) :
    Calls Try.prog 33 #[.string s, .int .u64 i1, .pointer (some ⟨bb, bo, none⟩), .int .u64 i2, .pointer (some ⟨sb, so, none⟩)] w fun e w' => ∃ d1 d2,
      e = .returned (.pointer (some ⟨w.heap.size, 0, none⟩)) ∧ Below w.heap.size w w' ∧ U32s w' (w.heap.size + 1) d1 (diffs ps1 qs1 ps1.length) ∧ U32s w' (w.heap.size + 1) d2 (diffs ps2 qs2 ps2.length) ∧
      w'.rowIs w.heap.size 63 9 (recF s i1 i2 (resI (diffs ps1 qs1 ps1.length).length) (resI (diffs ps2 qs2 ps2.length).length) (.slice e1 ps1.length ec1) (.slice l1 ps2.length lc1) d1 d2) := by
  have hbw : bb < w.heap.size := lt_of_cell hb0
  have hsw : sb < w.heap.size := lt_of_cell hc0
  go_enter Try.func33, Try.ntmps33
  go_upto_region 1 with fail
  go_cut [11] (fun r wx => r = .pointer (some ⟨w.heap.size, 0, none⟩) ∧ Below w.heap.size w wx ∧ wx.rowIs w.heap.size 63 9 (recF s i1 i2 0 0 (.slice e1 ps1.length ec1) (.slice l1 ps2.length lc1) (.slice none 0 0) (.slice none 0 0)))
  case first =>
    go_region_held3 (fun w' => w'.cell? ⟨bb, bo, none⟩ = some (.slice e1 ps1.length ec1) ∧ w'.cell? ⟨bb, bo + 1, none⟩ = some (.slice l1 ps2.length lc1)) (go_keep) (fail)
    go_wp2
    go_meet
    exact ⟨rfl, ((Below.refl _ _).alloc (Nat.le_refl _) _).drew, rec_alloc w s i1 i2 0 0 _ _ _ _⟩
  case rest =>
    obtain ⟨rfl, hB, hrec⟩ := hcut
    obtain ⟨wa, rfl⟩ : ∃ wa, wa = wc := ⟨_, rfl⟩
    go_upto_region 2 with fail
    go_cut [] (fun wx => Below w.heap.size w wx ∧ ∃ d1, U32s wx (w.heap.size + 1) d1 (diffs ps1 qs1 ps1.length) ∧ wx.rowIs w.heap.size 63 9 (recF s i1 i2 0 0 (.slice e1 ps1.length ec1) (.slice l1 ps2.length lc1) d1 (.slice none 0 0)))
    case first =>
      have hRlt : w.heap.size < wa.heap.size := hrec.lt
      have g0 := below_cell' hB hb0
      have g1 := below_cell' hB hc0
      have k1 := h1.below hB
      have k3 := h3.below hB
      have f7 := hrec.frozen 7
      have x7 := hrec.cell (i := 7) (by omega)
      have HR : Hid (wa.rowIs w.heap.size 63 9 (recF s i1 i2 0 0 (.slice e1 ps1.length ec1) (.slice l1 ps2.length lc1) (.slice none 0 0) (.slice none 0 0))) := hrec
      have hne1 : ¬ bb = w.heap.size := by omega
      have hne1' : ¬ w.heap.size = bb := by omega
      have hne2 : ¬ sb = w.heap.size := by omega
      have hne2' : ¬ w.heap.size = sb := by omega
      have hlt1 : bb < wa.heap.size := by omega
      have hlt2 : sb < wa.heap.size := by omega
      clear hrec hb0 hb1 hc0 hc1 h1 h2 h3 h4
      go_region_held3 (fun w' => w'.cell? ⟨bb, bo, none⟩ = some (.slice e1 ps1.length ec1) ∧ w'.cell? ⟨sb, so, none⟩ = some (.slice e2 qs1.length ec2)) (go_keep)
        ((go_at_call 32; refine (differing_any e1 e2 ec1 ec2 ps1 qs1 _ hs1 hle1 ?_ ?_).mono ?_; (exact k1); (exact k3); rintro e w1 ⟨ra, rc, rfl, hb0, hown⟩; have hbd := below_undrew hb0; clear hb0; obtain ⟨hcd, hfd⟩ := bcell hbd))
      go_wp2
      go_meet
      have hu : U32s w1 (w.heap.size + 1) _ _ := (U32s.of_owns hown).mono (show w.heap.size + 1 ≤ wa.heap.size by omega)
      exact ⟨(hB.trans (hbd.mono (by omega))).setCell (by simp) _, _, hu.kept ((Kept.refl _ _).setCell (by simp) _), rec_set7 (HR.out.of_block (hbd.block _ (by omega)))⟩
    case rest =>
      obtain ⟨wb, rfl⟩ : ∃ wb, wb = wc := ⟨_, rfl⟩
      clear hB hrec
      obtain ⟨hB, d1, hd1, hrec⟩ := hcut
      go_upto_region 3 with fail
      go_cut [] (fun wx => Below w.heap.size w wx ∧ ∃ d2, U32s wx (w.heap.size + 1) d1 (diffs ps1 qs1 ps1.length) ∧ U32s wx (w.heap.size + 1) d2 (diffs ps2 qs2 ps2.length) ∧ wx.rowIs w.heap.size 63 9 (recF s i1 i2 0 0 (.slice e1 ps1.length ec1) (.slice l1 ps2.length lc1) d1 d2))
      case first =>
        have hRlt : w.heap.size < wb.heap.size := hrec.lt
        have g0 := below_cell' hB hb1
        have g1 := below_cell' hB hc1
        have k1 := h2.below hB
        have k3 := h4.below hB
        have f7 := hrec.frozen 8
        have x7 := hrec.cell (i := 8) (by omega)
        have HR : Hid (wb.rowIs w.heap.size 63 9 (recF s i1 i2 0 0 (.slice e1 ps1.length ec1) (.slice l1 ps2.length lc1) d1 (.slice none 0 0))) := hrec
        have hne1 : ¬ bb = w.heap.size := by omega
        have hne1' : ¬ w.heap.size = bb := by omega
        have hne2 : ¬ sb = w.heap.size := by omega
        have hne2' : ¬ w.heap.size = sb := by omega
        have hlt1 : bb < wb.heap.size := by omega
        have hlt2 : sb < wb.heap.size := by omega
        clear hrec hb0 hb1 hc0 hc1 h1 h2 h3 h4
        go_region_held3 (fun w' => w'.cell? ⟨bb, bo + 1, none⟩ = some (.slice l1 ps2.length lc1) ∧ w'.cell? ⟨sb, so + 1, none⟩ = some (.slice l2 qs2.length lc2)) (go_keep)
          ((go_at_call 32; refine (differing_any l1 l2 lc1 lc2 ps2 qs2 _ hs2 hle2 ?_ ?_).mono ?_; (exact k1); (exact k3); rintro e w1 ⟨ra, rc, rfl, hb0, hown⟩; have hbd := below_undrew hb0; clear hb0; obtain ⟨hcd, hfd⟩ := bcell hbd))
        go_wp2
        go_meet
        have hu : U32s w1 (w.heap.size + 1) _ _ := (U32s.of_owns hown).mono (show w.heap.size + 1 ≤ wb.heap.size by omega)
        have hu1 := hd1.below hbd
        exact ⟨(hB.trans (hbd.mono (by omega))).setCell (by simp) _, _, hu1.kept ((Kept.refl _ _).setCell (by simp) _), hu.kept ((Kept.refl _ _).setCell (by simp) _), rec_set8 (HR.out.of_block (hbd.block _ (by omega)))⟩
      case rest =>
        obtain ⟨we, rfl⟩ : ∃ we, we = wc := ⟨_, rfl⟩
        clear hB hrec hd1
        obtain ⟨hB, d2, hd1, hd2, hrec⟩ := hcut
        clear hb0 hb1 hc0 hc1 h1 h2 h3 h4 hle1 hle2
        go_upto_region 4 with fail
        have f3 := hrec.frozen 3
        have f4 := hrec.frozen 4
        have x3 : we.cell? ⟨w.heap.size, 3, none⟩ = some (.int .i64 0) := hrec.cell (i := 3) (by omega)
        have x4 : we.cell? ⟨w.heap.size, 4, none⟩ = some (.int .i64 0) := hrec.cell (i := 4) (by omega)
        have x7 : we.cell? ⟨w.heap.size, 7, none⟩ = some d1 := hrec.cell (i := 7) (by omega)
        have x8 : we.cell? ⟨w.heap.size, 8, none⟩ = some d2 := hrec.cell (i := 8) (by omega)
        have HR : Hid (we.rowIs w.heap.size 63 9 (recF s i1 i2 0 0 (.slice e1 ps1.length ec1) (.slice l1 ps2.length lc1) d1 d2) ∧ U32s we (w.heap.size + 1) d1 (diffs ps1 qs1 ps1.length) ∧ U32s we (w.heap.size + 1) d2 (diffs ps2 qs2 ps2.length)) := ⟨hrec, hd1, hd2⟩
        obtain ⟨g1, rc1, rfl, _⟩ := hd1
        obtain ⟨g2, rc2, rfl, _⟩ := hd2
        have p7 : ∀ v, (we.setCell ⟨w.heap.size, 3, none⟩ v).cell? ⟨w.heap.size, 7, none⟩ = some (.slice (some ⟨g1, 0, none⟩) (diffs ps1 qs1 ps1.length).length rc1) := fun v => by rw [cell_set_ne (by omega)]; exact x7
        have p8 : ∀ v, (we.setCell ⟨w.heap.size, 3, none⟩ v).cell? ⟨w.heap.size, 8, none⟩ = some (.slice (some ⟨g2, 0, none⟩) (diffs ps2 qs2 ps2.length).length rc2) := fun v => by rw [cell_set_ne (by omega)]; exact x8
        have q7 : ∀ v u, ((we.setCell ⟨w.heap.size, 3, none⟩ v).setCell ⟨w.heap.size, 4, none⟩ u).cell? ⟨w.heap.size, 7, none⟩ = some (.slice (some ⟨g1, 0, none⟩) (diffs ps1 qs1 ps1.length).length rc1) := fun v u => by rw [cell_set_ne (by omega)]; exact p7 v
        have q8 : ∀ v u, ((we.setCell ⟨w.heap.size, 3, none⟩ v).setCell ⟨w.heap.size, 4, none⟩ u).cell? ⟨w.heap.size, 8, none⟩ = some (.slice (some ⟨g2, 0, none⟩) (diffs ps2 qs2 ps2.length).length rc2) := fun v u => by rw [cell_set_ne (by omega)]; exact p8 v
        have p4 : ∀ v, (we.setCell ⟨w.heap.size, 3, none⟩ v).cell? ⟨w.heap.size, 4, none⟩ = some (.int .i64 0) := fun v => by rw [cell_set_ne (by omega)]; exact x4
        clear hrec
        go_region_held3 (fun w' => w'.cell? ⟨w.heap.size, 7, none⟩ = some (.slice (some ⟨g1, 0, none⟩) (diffs ps1 qs1 ps1.length).length rc1) ∧ w'.cell? ⟨w.heap.size, 8, none⟩ = some (.slice (some ⟨g2, 0, none⟩) (diffs ps2 qs2 ps2.length).length rc2)) (go_keep)
          ((go_at_call 38; refine (resultOf_any _ _ _ _).mono ?_; rintro e w1 ⟨rfl, rfl⟩))
        go_wp2
        go_ret
        obtain ⟨hrec, hd1, hd2⟩ := HR.out
        exact ⟨_, _, rfl, ((hB.setCell (by simp) _).setCell (by simp) _).drew, hd1.kept (((Kept.refl _ _).setCell (by simp) _).setCell (by simp) _), hd2.kept (((Kept.refl _ _).setCell (by simp) _).setCell (by simp) _), rec_set4 (rec_set3 hrec)⟩
set_option maxHeartbeats 4000000 in
theorem zzJudge_any (s : ByteArray) (i1 i2 : Int) (bb bo sb so : Nat) (e1 l1 e2 l2 : Option Addr) (ec1 lc1 ec2 lc2 : Nat) (ps1 ps2 qs1 qs2 : List PV) (w : World)
    (hs1 : ps1.length ≤ 1048576) (hs2 : ps2.length ≤ 1048576) (hle1 : ps1.length ≤ qs1.length) (hle2 : ps2.length ≤ qs2.length)
    (hb0 : w.cell? ⟨bb, bo, none⟩ = some (.slice e1 ps1.length ec1)) (hb1 : w.cell? ⟨bb, bo + 1, none⟩ = some (.slice l1 ps2.length lc1))
    (hc0 : w.cell? ⟨sb, so, none⟩ = some (.slice e2 qs1.length ec2)) (hc1 : w.cell? ⟨sb, so + 1, none⟩ = some (.slice l2 qs2.length lc2))
    (h1 : PVCase w e1 ps1) (h2 : PVCase w l1 ps2) (h3 : PVCase w e2 qs1) (h4 : PVCase w l2 qs2) :
    Calls Try.prog 24 #[.string s, .int .u64 i1, .pointer (some ⟨bb, bo, none⟩), .int .u64 i2, .pointer (some ⟨sb, so, none⟩)] w fun e w' => ∃ d1 d2,
      e = .returned (.pointer (some ⟨w.heap.size, 0, none⟩)) ∧ Below w.heap.size w w' ∧ U32s w' (w.heap.size + 1) d1 (diffs ps1 qs1 ps1.length) ∧ U32s w' (w.heap.size + 1) d2 (diffs ps2 qs2 ps2.length) ∧
      w'.rowIs w.heap.size 63 9 (recF s i1 i2 (resI (diffs ps1 qs1 ps1.length).length) (resI (diffs ps2 qs2 ps2.length).length) (.slice e1 ps1.length ec1) (.slice l1 ps2.length lc1) d1 d2) := by
  have HJ := judge_any s i1 i2 bb bo sb so e1 l1 e2 l2 ec1 lc1 ec2 lc2 ps1 ps2 qs1 qs2 w hs1 hs2 hle1 hle2 hb0 hb1 hc0 hc1 h1 h2 h3 h4
  clear hb0 hb1 hc0 hc1 h1 h2 h3 h4 hs1 hs2 hle1 hle2
  go_enter Try.func24, Try.ntmps24
  go_wp2_with fail
  refine HJ.mono ?_
  rintro e w1 ⟨d1, d2, rfl, hb, hd1, hd2, hrec⟩
  clear HJ
  go_wp2
  go_ret
  exact ⟨d1, d2, rfl, hb, hd1, hd2, hrec⟩
end Go.Proofs.Qxb6601806a
