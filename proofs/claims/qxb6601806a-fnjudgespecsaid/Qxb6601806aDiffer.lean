/-
  bytes.Equal and differing: what the Go texts do.
-/
import Derived.Test.Qxb6601806aProg
import Derived.Test.Qxb6601806aPvBase
import Derived.Deep.LoopGhost
import Derived.Laws.BytesArg
import Derived.Lib.Bytes
import Derived.BigQuiet
import Derived.Deep.QuietTactic
import Derived.WalkSmall
namespace Go.Proofs.Qxb6601806a
open Go.RowKit Go
/-- 'string(b)' of bytes that lie in memory. -/
theorem convert_bytes {w : World} {lo c : Nat} {a : Option Addr} {xs : List Int} (h : IsBytes w lo (.slice a xs.length c) xs) : (convert 33 9 (.slice a xs.length c)).run Try.prog w = .ok (.string (strOfNums xs)) w := by
  obtain ⟨a', c', hv, hc, hw, hcase⟩ := h
  obtain ⟨rfl, rfl⟩ : a = a' ∧ c = c' := by simpa using hv
  rcases Nat.eq_zero_or_pos xs.length with h0 | h0
  · obtain rfl := List.eq_nil_of_length_eq_zero h0
    show (convert 33 9 (.slice a 0 c)).run Try.prog w = .ok (.string ByteArray.empty) w
    rw [run_convert_bytes_string w 33 9 5 _ _ c Try.underlying33 Try.underlying5 Try.underlying9]
    cases a <;> simp [Conv.bytesToString, loadCells]
    all_goals rfl
  · obtain ⟨b, off, rfl, _, hcell⟩ := hcase.resolve_left (by omega)
    exact run_convert_bytes_arg w 33 5 Try.underlying33 Try.underlying5 b off _ c xs rfl hcell 9 Try.underlying9
theorem bytesOf_inj {xs ys : List Int} (hx : ∀ i, i < xs.length → 0 ≤ xs.getD i 0 ∧ xs.getD i 0 < 256) (hy : ∀ i, i < ys.length → 0 ≤ ys.getD i 0 ∧ ys.getD i 0 < 256) (h : Lib.bytesOf xs = Lib.bytesOf ys) : xs = ys := by
  unfold Lib.bytesOf at h
  have hl : xs.length = ys.length := by simpa using congrArg List.length h
  apply List.ext_getElem hl
  intro i h1 h2
  have a := hx i h1
  have b := hy i h2
  have e := congrArg (fun l => l[i]?) h
  simp only [List.getElem?_map, List.getElem?_eq_getElem h1, List.getElem?_eq_getElem h2, Option.map_some, Option.some.injEq] at e
  simp only [List.getD, List.getElem?_eq_getElem h1, List.getElem?_eq_getElem h2, Option.getD_some] at a b
  have e2 := congrArg UInt8.toNat e
  simp only [UInt8.toNat_ofNat'] at e2
  omega
/-- Byte for byte alike. -/
def sameB (xs ys : List Int) : Bool := decide (xs = ys)
set_option maxHeartbeats 800000 in
theorem bytesEqual_any (a1 a2 : Option Addr) (c1 c2 lo1 lo2 : Nat) (xs ys : List Int) (w : World) (h1 : IsBytes w lo1 (.slice a1 xs.length c1) xs) (h2 : IsBytes w lo2 (.slice a2 ys.length c2) ys) :
    Calls Try.prog 37 #[.slice a1 xs.length c1, .slice a2 ys.length c2] w fun e w' => e = .returned (.bool (sameB xs ys)) ∧ w' = w := by
  have g1 := convert_bytes h1
  have g2 := convert_bytes h2
  have hb : (Lib.bytesOf xs == Lib.bytesOf ys) = sameB xs ys := by
    obtain ⟨_, _, _, _, hx, _⟩ := h1
    obtain ⟨_, _, _, _, hy, _⟩ := h2
    unfold sameB
    rw [Bool.eq_iff_iff]
    simp only [beq_iff_eq, decide_eq_true_eq]
    exact ⟨bytesOf_inj hx hy, fun h => by rw [h]⟩
  rw [← hb, ← Lib.strOfNums_toList, ← Lib.strOfNums_toList]
  clear hb h1 h2
  go_enter Try.func37, Try.ntmps37
  go_wp2
  go_ret
  exact ⟨rfl, rfl⟩

/-- The PCRs of the first k values whose digests differ. -/
def diffs (ps qs : List PV) (k : Nat) : List Int := ((List.range k).filter fun i => !sameB (ps.getD i pv0).dig (qs.getD i pv0).dig).map fun i => (ps.getD i pv0).pcr
theorem diffs_zero (ps qs : List PV) : diffs ps qs 0 = [] := rfl
theorem diffs_yes {ps qs : List PV} {k : Nat} (h : sameB (ps.getD k pv0).dig (qs.getD k pv0).dig = true) : diffs ps qs (k + 1) = diffs ps qs k := by
  unfold diffs
  rw [List.range_succ, List.filter_append, List.filter_cons, h]
  simp
theorem diffs_no {ps qs : List PV} {k : Nat} (h : sameB (ps.getD k pv0).dig (qs.getD k pv0).dig = false) : diffs ps qs (k + 1) = diffs ps qs k ++ [(ps.getD k pv0).pcr] := by
  unfold diffs
  rw [List.range_succ, List.filter_append, List.filter_cons, h]
  simp
theorem diffs_le (ps qs : List PV) (k : Nat) : (diffs ps qs k).length ≤ k := by
  unfold diffs
  rw [List.length_map]
  exact Nat.le_trans (List.length_filter_le _ _) (by simp)
theorem one_new_at {W : World} {B : Nat} (hB : W.heap.size = B) (x : Value) (t : TypeId) : ∀ j u, [x][j]? = some u → (W.alloc (.cells #[x] t)).cell? ((⟨B, 0, none⟩ : Addr).add j) = some u := by
  subst hB
  exact cell_one_new _ _ _
theorem Try.info30 : (Try.prog.info? 30).map (fun i => (i.zero, i.size, i.bytes)) = some (some (.int .u32 0), 1, 4) := by kernel_rfl
set_option maxHeartbeats 4000000 in
set_option maxRecDepth 100000 in
theorem differing_any (a1 a2 : Option Addr) (c1 c2 : Nat) (ps qs : List PV) (w : World) (hs : ps.length ≤ 1048576) (hle : ps.length ≤ qs.length) (h1 : PVCase w a1 ps) (h2 : PVCase w a2 qs) :
    Calls Try.prog 32 #[.slice a1 ps.length c1, .slice a2 qs.length c2] w fun e w' => ∃ a c, e = .returned (.slice (some a) (diffs ps qs ps.length).length c) ∧ Below w.heap.size w w' ∧
      w'.ownsRow w.heap.size 30 1 (.slice (some a) (diffs ps qs ps.length).length c) (diffs ps qs ps.length).length ((diffs ps qs ps.length).map (Value.int .u32)) := by
  obtain ⟨i0, hi, hz0, hz1, hz2⟩ := info_parts Try.info30
  unfold PVCase at h1 h2
  obtain ⟨n, hN⟩ : ∃ n, ps.length = n := ⟨_, rfl⟩
  obtain ⟨n2, hN2⟩ : ∃ n, qs.length = n := ⟨_, rfl⟩
  rw [hN] at hs hle h1 ⊢
  rw [hN2] at hle h2 ⊢
  go_enter Try.func32, Try.ntmps32
  go_wp2
  have hW0 : (w.alloc (Obj.cells #[] 30)).ownsRow w.heap.size 30 1 (.slice (some ⟨w.heap.size, 0, none⟩) 0 0) 0 [] :=
    ⟨rfl, .inr ⟨w.heap.size, 0, #[], rfl, Nat.le_refl _, heap_alloc_new w _, Nat.le_refl _, by decide, rfl, rfl⟩⟩
  have hB0 : Below w.heap.size w (w.alloc (Obj.cells #[] 30)) := (Below.refl _ _).alloc (Nat.le_refl _) _
  go_loopg [5, 11] n (fun g v i wr => ∃ k : Nat, k + g = n ∧ i = .int .i64 k ∧ Below w.heap.size w wr ∧ ∃ a c, v = .slice (some a) (diffs ps qs k).length c ∧
    wr.ownsRow w.heap.size 30 1 (.slice (some a) (diffs ps qs k).length c) (diffs ps qs k).length ((diffs ps qs k).map (Value.int .u32)))
  case atStart => exact ⟨0, by omega, rfl, hB0, _, _, rfl, hW0⟩
  case round =>
    obtain ⟨k, hk, rfl, hbel, ra, rc, rfl, hown⟩ := hrel
    by_cases hlt : k < n
    · obtain ⟨b1, o1, lo1, rfl, hrow1⟩ := h1.resolve_left (by omega)
      obtain ⟨b2, o2, lo2, rfl, hrow2⟩ := h2.resolve_left (by omega)
      obtain ⟨dv1, s0, s1, s2, hd1⟩ := hrow1 k hlt
      obtain ⟨dv2, t0, t1, t2, hd2⟩ := hrow2 k (by omega)
      have hdl := diffs_le ps qs k
      have hyes := @diffs_yes ps qs k
      have hno := @diffs_no ps qs k
      obtain ⟨p, hp⟩ : ∃ p, p = ps.getD k pv0 := ⟨_, rfl⟩
      obtain ⟨q, hq⟩ : ∃ q, q = qs.getD k pv0 := ⟨_, rfl⟩
      rw [← hp] at s0 s1 hd1 hyes hno
      rw [← hq] at hd2 hyes hno
      have u0 := below_cell' hbel s0
      have u1 := below_cell' hbel s1
      have u2 := below_cell' hbel s2
      have v2 := below_cell' hbel t2
      replace hd1 := hd1.kept (Kept.of_below _ hbel)
      replace hd2 := hd2.kept (Kept.of_below _ hbel)
      have hbw : b2 < wr.heap.size := lt_of_cell v2
      obtain ⟨da1, dc1, rfl, _⟩ := id hd1
      obtain ⟨da2, dc2, rfl, _⟩ := id hd2
      have HD : Hid ((sameB p.dig q.dig = true → diffs ps qs (k + 1) = diffs ps qs k) ∧ (sameB p.dig q.dig = false → diffs ps qs (k + 1) = diffs ps qs k ++ [p.pcr])) := ⟨hyes, hno⟩
      obtain ⟨ds, hds⟩ : ∃ ds, ds = diffs ps qs k := ⟨_, rfl⟩
      obtain ⟨l, hl⟩ : ∃ l, l = ds.length := ⟨_, rfl⟩
      rw [← hds] at hown hdl
      rw [← hds, ← hl]
      rw [← hl] at hown hdl
      have HL : Hid (ds = diffs ps qs k ∧ l = ds.length) := ⟨hds, hl⟩
      clear hyes hno hp hq hrow1 hrow2 s0 s1 s2 t0 t1 t2 hW0 hB0 h1 h2 hds hl
      have hA1 : ∀ o, IsBytes (wr.alloc o) lo1 (.slice da1 p.dig.length dc1) p.dig := fun o => hd1.kept (Kept.of_below _ ((Below.refl _ _).alloc (Nat.le_refl _) o))
      have hA2 : ∀ o, IsBytes (wr.alloc o) lo2 (.slice da2 q.dig.length dc2) q.dig := fun o => hd2.kept (Kept.of_below _ ((Below.refl _ _).alloc (Nat.le_refl _) o))
      have hknI : (k : Int) < (n2 : Int) := by omega
      have hra : w.heap.size ≤ ra.block := by
        rcases hown.2 with ⟨h, _⟩ | ⟨g, cap, cur, hv, hg, _⟩
        · simp at h
        · simp at hv
          rw [hv.1]; exact hg
      go_wp2
      go_quiet ((go_at_call 37; exact Calls.quiet_of_same (bytesEqual_any _ _ _ _ lo1 lo2 p.dig q.dig _ (by exact hA1 _) (by exact hA2 _))))
      cases hsame : sameB p.dig q.dig with
      | true =>
        have he := HD.out.1 hsame
        have HE : Hid (diffs ps qs (k + 1) = diffs ps qs k) := he
        clear he
        go_wp2
        go_roundg (gk - 1)
        case measure => omega
        case rel =>
          obtain ⟨hds, hl⟩ := HL.out
          refine ⟨k + 1, by omega, by go_num, below_drewN (hbel.alloc hbel.size _) _, ra, rc, ?_, ?_⟩
          · rw [HE.out, ← hds, ← hl]
          · rw [HE.out, ← hds, ← hl]; exact (hown.alloc _)
      | false =>
        have he := HD.out.2 hsame
        have HE : Hid (diffs ps qs (k + 1) = diffs ps qs k ++ [p.pcr]) := he
        clear he
        have hsz := hbel.size
        go_wp2_with (at_builtin; refine wpList_append_own _ rfl (.tmp 25) (.tmp 28) 45 rfl w.heap.size 30 i0 (.int .u32 0) 1 4 Try.underlying45 hi hz0 hz1 hz2 rfl (by decide) (.slice (some ra) l rc) l (ds.map (Value.int .u32)) rfl ?q0 ⟨wr.heap.size + 1, 0, none⟩ 1 1 [.int .u32 p.pcr] rfl rfl ?q1 ?q2 ?q3 ?q4 ?q5 ?_)
        case q0 => exact (hown.alloc _).alloc _
        case q1 => exact one_new_at (by show (wr.alloc _).heap.size = _; simp) _ _
        case q2 => intro u hu; simp at hu; subst hu; rfl
        case q3 => unfold maxLen; omega
        case q4 => omega
        case q5 => simp; omega
        intro v' w1 hown' hgrow _
        have hex : ∃ g cap, v' = .slice (some ⟨g, 0, none⟩) (l + 1) cap := by
          rcases hown'.2 with ⟨_, h⟩ | ⟨g, cap, cur, hv, _⟩
          · omega
          · exact ⟨g, cap, hv⟩
        obtain ⟨g, cap, rfl⟩ := hex
        have hB1 : Below w.heap.size w w1 := ((below_drewN (hbel.alloc hsz _) _).alloc (by simp; omega) _).grown hgrow (by simp; omega) (fun k hk => by
          simp [Value.ownBlock] at hk
          omega)
        clear hgrow
        go_wp2
        go_roundg (gk - 1)
        case measure => omega
        case rel =>
          obtain ⟨hds, hl⟩ := HL.out
          have hlen : (diffs ps qs (k + 1)).length = l + 1 := by rw [HE.out, ← hds, List.length_append, ← hl]; rfl
          refine ⟨k + 1, by omega, by go_num, hB1, ⟨g, 0, none⟩, cap, ?_, ?_⟩
          · rw [hlen]
          · rw [hlen, HE.out, ← hds, List.map_append]; exact hown'
    · obtain rfl : k = n := by omega
      go_wp2
      go_ret
      exact ⟨ra, rc, rfl, hbel, hown⟩
end Go.Proofs.Qxb6601806a
