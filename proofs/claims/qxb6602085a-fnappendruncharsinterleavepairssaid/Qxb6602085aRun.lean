/-
  appendRun: what the Go text does.
-/
import Derived.Test.Qxb6602085aCallees
namespace Go.Proofs.Qxb6602085a
open Go.RowKit Go
attribute [local go_sem ↓] Go.wp_at_zero Go.wp_at_succ
def Strs (w : World) (a : Option Addr) (L : List ByteArray) : Prop := L.length = 0 ∨ ∃ g, a = some ⟨g, 0, none⟩ ∧ ∀ i, i < L.length → w.cell? ⟨g, i, none⟩ = some (.string (L.getD i bytes0))
theorem Strs.below {w w' : World} {a : Option Addr} {L : List ByteArray} (h : Strs w a L) (hb : Below w.heap.size w w') : Strs w' a L := by
  rcases h with h | ⟨g, h1, h2⟩
  · exact .inl h
  · exact .inr ⟨g, h1, fun i hi => below_cell hb (h2 i hi)⟩
theorem Strs.of_owns {w : World} {lo : Nat} {a : Option Addr} {c : Nat} {L : List ByteArray} (h : w.ownsRow lo 9 1 (.slice a L.length c) L.length (L.map Value.string)) : Strs w a L := by
  rcases h.2 with ⟨_, h⟩ | ⟨g, cap, cur, hv, hg, hh, hn, hc, hs, ht⟩
  · exact .inl h
  · simp at hv
    obtain ⟨rfl, rfl⟩ := hv
    refine .inr ⟨g, rfl, fun i hi => ?_⟩
    have e := congrArg (fun l => l[i]?) ht
    simp only [Nat.mul_one, List.getElem?_map] at e
    rw [List.getElem?_take, if_pos hi] at e
    simp only [World.cell?, hh]
    rw [Array.getElem?_toList] at e
    rw [e]
    simp [List.getD, List.getElem?_eq_getElem hi]
def RunPost (w : World) (L : List ByteArray) (e : Ending) (w' : World) : Prop := ∃ a c, e = .returned (.slice a L.length c) ∧ Below w.heap.size w w' ∧ Strs w' a L
theorem one_new_at {W : World} {B : Nat} (hB : W.heap.size = B) (x : Value) (t : TypeId) : ∀ j u, [x][j]? = some u → (W.alloc (.cells #[x] t)).cell? ((⟨B, 0, none⟩ : Addr).add j) = some u := by
  subst hB
  exact cell_one_new _ _ _
set_option maxHeartbeats 1600000 in
theorem appendRun_short (f : ByteArray) (a : Option Addr) (n c : Nat) (chars : Bool) (w : World) (hn : n ≤ 1) :
    Calls Try.prog 28 #[.slice none 0 0, .string f, .slice a n c, .bool chars] w (RunPost w []) := by
  have h1 : ((n : Int) - 1 == 1) = false := by simp; omega
  have h2 : ¬ (0 : Int) < (n : Int) - 1 := by omega
  go_enter Try.func28, Try.ntmps28
  go_wp2
  refine wp_loop_rounds 1 ?_
  rw [rounds_succ]
  go_wp2
  go_ret
  exact ⟨none, 0, rfl, Below.refl _ _, .inl rfl⟩
set_option maxHeartbeats 4000000 in
theorem appendRun_two (f : ByteArray) (b off c : Nat) (z : Nat → Nat) (chars : Bool) (w : World) (_hf : f.size ≤ 1048576) (h01 : z 0 ≤ z 1) (h1f : z 1 ≤ f.size)
    (u0 : w.cell? ⟨b, off, none⟩ = some (.int .i64 (z 0))) (u1 : w.cell? ⟨b, off + 1, none⟩ = some (.int .i64 (z 1))) :
    Calls Try.prog 28 #[.slice none 0 0, .string f, .slice (some ⟨b, off, none⟩) 2 c, .bool chars] w (RunPost w [chr f z 0]) := by
  obtain ⟨i0, hi, hz0, hz1, hz2⟩ := info_parts Try.info9
  have hbw := lt_of_cell u0
  unfold chr
  obtain ⟨x, hx⟩ : ∃ x, x = z 0 := ⟨_, rfl⟩
  obtain ⟨y, hy⟩ : ∃ y, y = z 1 := ⟨_, rfl⟩
  rw [show (0 + 1) = 1 from rfl]
  rw [← hx] at u0 h01 ⊢
  rw [← hy] at u1 h01 h1f ⊢
  clear hx hy
  have e1 : (0 : Int) ≤ (x : Int) := by omega
  have e2 : (x : Int) ≤ (y : Int) := by omega
  have e3 : (y : Int) ≤ (f.size : Int) := by omega
  go_enter Try.func28, Try.ntmps28
  go_wp2
  go_region_held3 (fun w' => w'.cell? ⟨b, off, none⟩ = some (.int .i64 x) ∧ w'.cell? ⟨b, off + 1, none⟩ = some (.int .i64 y)) (first
      | go_keep
      | (go_split_ands
         refine ⟨?_, ?_⟩
         · (rw [hgrow.cell_far _ (by simp; omega) (by simp [Value.ownBlock])]; assumption)
         · (rw [hgrow.cell_far _ (by simp; omega) (by simp [Value.ownBlock])]; assumption)))
    ((refine step_append_lies _ (by rfl) _ _ _ (by rfl) w.heap.size 9 i0 _ 1 16 Try.underlying32 hi hz0 hz1 hz2 rfl (by omega) (.slice none 0 0) 0 [] (by rfl) (World.ownsRow_nil _ _ _ _)
        ⟨w.heap.size, 0, none⟩ 1 1 [.string (f.extract x y)] (by rfl) (by rfl) (World.news_of_block (cs := #[.string (f.extract x y)]) (t := 9) (fr := (0, 0)) (heap_alloc_new w _)) (by simp [Value.oneCell'])
        (by omega) (by decide) (by omega) (by simp) (w.heap.size + 1) (by simp) ?_; intro g cap w1 hown1 hgrow hat hlt))
  go_wp2
  go_ret
  exact ⟨some ⟨g, 0, none⟩, cap, by simp, (((Below.refl _ _).alloc (Nat.le_refl _) _).drew).grown hgrow (by simp) (fun k hk => by simp [Value.ownBlock] at hk), Strs.of_owns (L := [f.extract x y]) hown1⟩
set_option maxHeartbeats 8000000 in
set_option maxRecDepth 100000 in
theorem appendRun_true (f : ByteArray) (b off c N : Nat) (z : Nat → Nat) (w : World) (hN : 2 ≤ N) (hN2 : N ≤ 1048576) (hfit : Fit z (N + 1) f.size)
    (hcell : ∀ i, i < N + 1 → w.cell? ⟨b, off + i, none⟩ = some (.int .i64 (z i))) :
    Calls Try.prog 28 #[.slice none 0 0, .string f, .slice (some ⟨b, off, none⟩) (N + 1) c, .bool true] w (RunPost w (run true f z N N)) := by
  obtain ⟨i0, hi, hz0, hz1, hz2⟩ := info_parts Try.info9
  have hbw := lt_of_cell (hcell 0 (by omega))
  have hn1 : ((N : Int) == 1) = false := by simp; omega
  have hN0 : (0 : Int) < (N : Int) := by omega
  go_enter Try.func28, Try.ntmps28
  go_wp2
  go_loopg [0, 28] N (fun g v i wr => ∃ k : Nat, k + g = N ∧ i = .int .i64 k ∧ Below w.heap.size w wr ∧ ∃ a cp, v = .slice a (run true f z N k).length cp ∧
    wr.ownsRow w.heap.size 9 1 (.slice a (run true f z N k).length cp) (run true f z N k).length ((run true f z N k).map Value.string))
  case atStart => exact ⟨0, by omega, rfl, Below.refl _ _, none, 0, rfl, World.ownsRow_nil _ _ _ _⟩
  case round =>
    obtain ⟨k, hk, rfl, hbel, a, cp, rfl, hown⟩ := hrel
    by_cases hlt : k < N
    · have u0 := below_cell hbel (hcell k (by omega))
      have u1 := below_cell hbel (hcell (k + 1) (by omega))
      have hll := run_true_length f z N k hlt
      have hstep : run true f z N (k + 1) = run true f z N k ++ [f.extract (z k) (z (k + 1))] ++ (if k + 1 < N then [f.extract (z k) (z (k + 2))] else []) := rfl
      have q0 := hfit.step (show k + 1 < N + 1 by omega)
      have q1 := (hfit (k + 1) (by omega)).1
      obtain ⟨x, hx⟩ : ∃ x, x = z k := ⟨_, rfl⟩
      obtain ⟨y, hy⟩ : ∃ y, y = z (k + 1) := ⟨_, rfl⟩
      obtain ⟨L, hL⟩ : ∃ L, L = run true f z N k := ⟨_, rfl⟩
      obtain ⟨l, hl⟩ : ∃ l, l = L.length := ⟨_, rfl⟩
      rw [← hL] at hown hll hstep ⊢
      rw [← hl] at hown hll ⊢
      rw [← hx] at u0 q0 hstep
      rw [← hy] at u1 q0 q1 hstep
      have e1 : (0 : Int) ≤ (x : Int) := by omega
      have e2 : (x : Int) ≤ (y : Int) := by omega
      have e3 : (y : Int) ≤ (f.size : Int) := by omega
      have ek : (k : Int) < (N : Int) + 1 := by omega
      have ek1 : (k : Int) + 1 < (N : Int) + 1 := by omega
      have ek0 : (0 : Int) ≤ (k : Int) + 1 := by omega
      have ew1 : IntKind.i64.wrap ((k : Int) + 1) = (k : Int) + 1 := by rw [IntKind.wrap_i64]; omega
      have ew2 : IntKind.i64.wrap ((k : Int) + 2) = (k : Int) + 2 := by rw [IntKind.wrap_i64]; omega
      have hlb : l ≤ 2 * k := by omega
      clear hll
      have hsz := hbel.size
      have hob0 : ∀ g, (Value.slice a l cp).ownBlock = some g → w.heap.size ≤ g := fun g hg => by
        rcases hown.2 with ⟨h, _⟩ | ⟨g', cap, cur, hv, hg', _⟩
        · rw [h] at hg; simp [Value.ownBlock] at hg
        · rw [hv] at hg; simp [Value.ownBlock] at hg; omega
      have hnb0 : some b ≠ (Value.slice a l cp).ownBlock := fun h => by have := hob0 b h.symm; omega
      by_cases hlt2 : k + 1 < N
      · have u2 := below_cell hbel (hcell (k + 2) (by omega))
        have q2 := hfit.step (show (k + 1) + 1 < N + 1 by omega)
        have q3 := (hfit (k + 2) (by omega)).1
        rw [if_pos hlt2] at hstep
        obtain ⟨t, ht⟩ : ∃ t, t = z (k + 2) := ⟨_, rfl⟩
        rw [← ht] at u2 q3 hstep
        rw [show k + 1 + 1 = k + 2 from rfl, ← ht, ← hy] at q2
        have e4 : (x : Int) ≤ (t : Int) := by omega
        have e5 : (t : Int) ≤ (f.size : Int) := by omega
        have ek2 : (k : Int) + 2 < (N : Int) + 1 := by omega
        have ek3 : k + 2 < N + 1 := by omega
        have etn : ((k : Int) + 2).toNat = k + 2 := by omega
        have ek4 : (0 : Int) ≤ (k : Int) + 2 := by omega
        have elt : (k : Int) + 1 < (N : Int) := by omega
        have HS : Hid (l = L.length ∧ run true f z N (k + 1) = L ++ [f.extract x y] ++ [f.extract x t]) := ⟨hl, hstep⟩
        clear hx hy ht hL hl hstep hcell hfit
        have hob1 := hob0
        have hnb1 := hnb0
        go_wp2
        go_region_held3 (fun w' => w'.cell? ⟨b, off + k, none⟩ = some (.int .i64 x) ∧ w'.cell? ⟨b, off + (k + 1), none⟩ = some (.int .i64 y)) (first
            | go_keep
            | (go_split_ands
               refine ⟨?_, ?_⟩
               · (rw [hgrow1.cell_far _ (by simp; omega) hnb1]; assumption)
               · (rw [hgrow1.cell_far _ (by simp; omega) hnb1]; assumption)))
          ((refine step_append_lies _ (by rfl) _ _ _ (by rfl) w.heap.size 9 i0 _ 1 16 Try.underlying32 hi hz0 hz1 hz2 rfl (by omega) (.slice a l cp) (l) (L.map Value.string) (by rfl) ((hown.alloc _).drew) ⟨wr.heap.size, 0, none⟩ 1 1 [.string (f.extract x y)] (by rfl) (by rfl) (World.news_of_block (cs := #[.string (f.extract x y)]) (t := 9) (fr := (0, 0)) (heap_alloc_new wr _)) (by simp [Value.oneCell']) (by omega) (by unfold maxLen; omega) (by omega) (by simp; omega) (wr.heap.size + 1) (by simp) ?_; intro g1 cap1 w1 hown1 hgrow1 hat1 hlt1))
        have hB1 : Below w.heap.size w w1 := ((hbel.alloc (by omega) _).drew).grown hgrow1 (by simp; omega) hob1
        have x0 : w1.cell? ⟨b, off + k, none⟩ = some (.int .i64 x) := by rw [hB1.cell (p := ⟨b, off + k, none⟩) (by exact hbw), ← hbel.cell (p := ⟨b, off + k, none⟩) (by exact hbw)]; exact u0
        have x2 : w1.cell? ⟨b, off + (k + 2), none⟩ = some (.int .i64 t) := by rw [hB1.cell (p := ⟨b, off + (k + 2), none⟩) (by exact hbw), ← hbel.cell (p := ⟨b, off + (k + 2), none⟩) (by exact hbw)]; exact u2
        have hg1 : w.heap.size ≤ g1 := by
          rcases hown1.2 with ⟨_, h⟩ | ⟨g', cap, cur, hv, hg', _⟩
          · omega
          · simp at hv; omega
        have hob2 : ∀ g, (Value.slice (some ⟨g1, 0, none⟩) (l + 1) cap1).ownBlock = some g → w.heap.size ≤ g := fun g hg => by simp [Value.ownBlock] at hg; omega
        have hnb2 : some b ≠ (Value.slice (some ⟨g1, 0, none⟩) (l + 1) cap1).ownBlock := fun h => by have := hob2 b h.symm; omega
        have hsz1 := hB1.size
        have HB : Hid (Below w.heap.size w w1) := hB1
        clear u0 u1 u2 hgrow1 hat1 hlt1 hob0 hnb0 hob1 hnb1 hbel hown hB1
        go_wp2
        go_region_held3 (fun w' => w'.cell? ⟨b, off + k, none⟩ = some (.int .i64 x) ∧ w'.cell? ⟨b, off + (k + 2), none⟩ = some (.int .i64 t)) (first
            | go_keep
            | (go_split_ands
               refine ⟨?_, ?_⟩
               · (rw [hgrow2.cell_far _ (by simp; omega) hnb2]; assumption)
               · (rw [hgrow2.cell_far _ (by simp; omega) hnb2]; assumption)))
          ((refine step_append_lies _ (by rfl) _ _ _ (by rfl) w.heap.size 9 i0 _ 1 16 Try.underlying32 hi hz0 hz1 hz2 rfl (by omega) (.slice (some ⟨g1, 0, none⟩) (l + 1) cap1) (l + 1) (L.map Value.string ++ [.string (f.extract x y)]) (by rfl) ((hown1.alloc _).drew) ⟨w1.heap.size, 0, none⟩ 1 1 [.string (f.extract x t)] (by rfl) (by rfl) (World.news_of_block (cs := #[.string (f.extract x t)]) (t := 9) (fr := (0, 0)) (heap_alloc_new w1 _)) (by simp [Value.oneCell']) (by omega) (by unfold maxLen; omega) (by omega) (by simp; omega) (w1.heap.size + 1) (by simp) ?_; intro g2 cap2 w2 hown2 hgrow2 hat2 hlt2))
        have hB2 : Below w.heap.size w w2 := ((HB.out.alloc (by omega) _).drew).grown hgrow2 (by simp; omega) hob2
        have HB2 : Hid (Below w.heap.size w w2) := hB2
        clear hgrow2 hat2 hlt2 hB2
        go_wp2
        go_roundg (gk - 1)
        case measure => omega
        case rel =>
          obtain ⟨hl, hs⟩ := HS.out
          have hlen : (run true f z N (k + 1)).length = l + 1 + 1 := by rw [hs]; simp [← hl]
          refine ⟨k + 1, by omega, by go_num, HB2.out, some ⟨g2, 0, none⟩, cap2, by rw [hlen], ?_⟩
          rw [hlen, hs, List.map_append, List.map_append]
          exact hown2
      · rw [if_neg hlt2] at hstep
        have elt : ¬ (k : Int) + 1 < (N : Int) := by omega
        have HS : Hid (l = L.length ∧ run true f z N (k + 1) = L ++ [f.extract x y] ++ []) := ⟨hl, hstep⟩
        clear hx hy hL hl hstep hcell hfit
        have hob1 := hob0
        have hnb1 := hnb0
        go_wp2
        go_region_held3 (fun w' => w'.cell? ⟨b, off + k, none⟩ = some (.int .i64 x) ∧ w'.cell? ⟨b, off + (k + 1), none⟩ = some (.int .i64 y)) (first
            | go_keep
            | (go_split_ands
               refine ⟨?_, ?_⟩
               · (rw [hgrow1.cell_far _ (by simp; omega) hnb1]; assumption)
               · (rw [hgrow1.cell_far _ (by simp; omega) hnb1]; assumption)))
          ((refine step_append_lies _ (by rfl) _ _ _ (by rfl) w.heap.size 9 i0 _ 1 16 Try.underlying32 hi hz0 hz1 hz2 rfl (by omega) (.slice a l cp) (l) (L.map Value.string) (by rfl) ((hown.alloc _).drew) ⟨wr.heap.size, 0, none⟩ 1 1 [.string (f.extract x y)] (by rfl) (by rfl) (World.news_of_block (cs := #[.string (f.extract x y)]) (t := 9) (fr := (0, 0)) (heap_alloc_new wr _)) (by simp [Value.oneCell']) (by omega) (by unfold maxLen; omega) (by omega) (by simp; omega) (wr.heap.size + 1) (by simp) ?_; intro g1 cap1 w1 hown1 hgrow1 hat1 hlt1))
        have hB1 : Below w.heap.size w w1 := ((hbel.alloc (by omega) _).drew).grown hgrow1 (by simp; omega) hob1
        have HB : Hid (Below w.heap.size w w1) := hB1
        clear hgrow1 hat1 hlt1 hB1
        go_wp2
        go_roundg (gk - 1)
        case measure => omega
        case rel =>
          obtain ⟨hl, hs⟩ := HS.out
          have hlen : (run true f z N (k + 1)).length = l + 1 := by rw [hs]; simp [← hl]
          refine ⟨k + 1, by omega, by go_num, HB.out, some ⟨g1, 0, none⟩, cap1, by rw [hlen], ?_⟩
          rw [hlen, hs, List.append_nil, List.map_append]
          exact hown1
    · obtain rfl : k = N := by omega
      go_wp2
      go_ret
      exact ⟨a, cp, rfl, hbel, Strs.of_owns hown⟩
set_option maxHeartbeats 8000000 in
set_option maxRecDepth 100000 in
theorem appendRun_false (f : ByteArray) (b off c N : Nat) (z : Nat → Nat) (w : World) (hN : 2 ≤ N) (hN2 : N ≤ 1048576) (hfit : Fit z (N + 1) f.size)
    (hcell : ∀ i, i < N + 1 → w.cell? ⟨b, off + i, none⟩ = some (.int .i64 (z i))) :
    Calls Try.prog 28 #[.slice none 0 0, .string f, .slice (some ⟨b, off, none⟩) (N + 1) c, .bool false] w (RunPost w (run false f z N N)) := by
  obtain ⟨i0, hi, hz0, hz1, hz2⟩ := info_parts Try.info9
  have hbw := lt_of_cell (hcell 0 (by omega))
  have hn1 : ((N : Int) == 1) = false := by simp; omega
  have hN0 : (0 : Int) < (N : Int) := by omega
  go_enter Try.func28, Try.ntmps28
  go_wp2
  go_loopg [0, 28] N (fun g v i wr => ∃ k : Nat, k + g = N ∧ i = .int .i64 k ∧ Below w.heap.size w wr ∧ ∃ a cp, v = .slice a (run false f z N k).length cp ∧
    wr.ownsRow w.heap.size 9 1 (.slice a (run false f z N k).length cp) (run false f z N k).length ((run false f z N k).map Value.string))
  case atStart => exact ⟨0, by omega, rfl, Below.refl _ _, none, 0, rfl, World.ownsRow_nil _ _ _ _⟩
  case round =>
    obtain ⟨k, hk, rfl, hbel, a, cp, rfl, hown⟩ := hrel
    by_cases hlt : k < N
    · have u0 := below_cell hbel (hcell k (by omega))
      have u1 := below_cell hbel (hcell (k + 1) (by omega))
      have hll := run_false_length f z N k hlt
      have hstep : run false f z N (k + 1) = run false f z N k ++ [] ++ (if k + 1 < N then [f.extract (z k) (z (k + 2))] else []) := rfl
      have q0 := hfit.step (show k + 1 < N + 1 by omega)
      have q1 := (hfit (k + 1) (by omega)).1
      obtain ⟨x, hx⟩ : ∃ x, x = z k := ⟨_, rfl⟩
      obtain ⟨y, hy⟩ : ∃ y, y = z (k + 1) := ⟨_, rfl⟩
      obtain ⟨L, hL⟩ : ∃ L, L = run false f z N k := ⟨_, rfl⟩
      obtain ⟨l, hl⟩ : ∃ l, l = L.length := ⟨_, rfl⟩
      rw [← hL] at hown hll hstep ⊢
      rw [← hl] at hown hll ⊢
      rw [← hx] at u0 q0 hstep
      rw [← hy] at u1 q0 q1
      have e1 : (0 : Int) ≤ (x : Int) := by omega
      have e2 : (x : Int) ≤ (y : Int) := by omega
      have e3 : (y : Int) ≤ (f.size : Int) := by omega
      have ek : (k : Int) < (N : Int) + 1 := by omega
      have ek1 : (k : Int) + 1 < (N : Int) + 1 := by omega
      have ek0 : (0 : Int) ≤ (k : Int) + 1 := by omega
      have ew1 : IntKind.i64.wrap ((k : Int) + 1) = (k : Int) + 1 := by rw [IntKind.wrap_i64]; omega
      have ew2 : IntKind.i64.wrap ((k : Int) + 2) = (k : Int) + 2 := by rw [IntKind.wrap_i64]; omega
      have hlb : l ≤ 2 * k := by omega
      clear hll
      have hsz := hbel.size
      have hob0 : ∀ g, (Value.slice a l cp).ownBlock = some g → w.heap.size ≤ g := fun g hg => by
        rcases hown.2 with ⟨h, _⟩ | ⟨g', cap, cur, hv, hg', _⟩
        · rw [h] at hg; simp [Value.ownBlock] at hg
        · rw [hv] at hg; simp [Value.ownBlock] at hg; omega
      have hnb0 : some b ≠ (Value.slice a l cp).ownBlock := fun h => by have := hob0 b h.symm; omega
      by_cases hlt2 : k + 1 < N
      · have u2 := below_cell hbel (hcell (k + 2) (by omega))
        have q2 := hfit.step (show (k + 1) + 1 < N + 1 by omega)
        have q3 := (hfit (k + 2) (by omega)).1
        rw [if_pos hlt2] at hstep
        obtain ⟨t, ht⟩ : ∃ t, t = z (k + 2) := ⟨_, rfl⟩
        rw [← ht] at u2 q3 hstep
        rw [show k + 1 + 1 = k + 2 from rfl, ← ht, ← hy] at q2
        have e4 : (x : Int) ≤ (t : Int) := by omega
        have e5 : (t : Int) ≤ (f.size : Int) := by omega
        have ek2 : (k : Int) + 2 < (N : Int) + 1 := by omega
        have ek3 : k + 2 < N + 1 := by omega
        have etn : ((k : Int) + 2).toNat = k + 2 := by omega
        have ek4 : (0 : Int) ≤ (k : Int) + 2 := by omega
        have elt : (k : Int) + 1 < (N : Int) := by omega
        have HS : Hid (l = L.length ∧ run false f z N (k + 1) = L ++ [] ++ [f.extract x t]) := ⟨hl, hstep⟩
        clear hx hy ht hL hl hstep hcell hfit
        have hob2 := hob0
        have hnb2 := hnb0
        go_wp2
        go_region_held3 (fun w' => w'.cell? ⟨b, off + k, none⟩ = some (.int .i64 x) ∧ w'.cell? ⟨b, off + (k + 2), none⟩ = some (.int .i64 t)) (first
            | go_keep
            | (go_split_ands
               refine ⟨?_, ?_⟩
               · (rw [hgrow2.cell_far _ (by simp; omega) hnb2]; assumption)
               · (rw [hgrow2.cell_far _ (by simp; omega) hnb2]; assumption)))
          ((refine step_append_lies _ (by rfl) _ _ _ (by rfl) w.heap.size 9 i0 _ 1 16 Try.underlying32 hi hz0 hz1 hz2 rfl (by omega) (.slice a l cp) (l) (L.map Value.string) (by rfl) ((hown.alloc _).drew) ⟨wr.heap.size, 0, none⟩ 1 1 [.string (f.extract x t)] (by rfl) (by rfl) (World.news_of_block (cs := #[.string (f.extract x t)]) (t := 9) (fr := (0, 0)) (heap_alloc_new wr _)) (by simp [Value.oneCell']) (by omega) (by unfold maxLen; omega) (by omega) (by simp; omega) (wr.heap.size + 1) (by simp) ?_; intro g2 cap2 w2 hown2 hgrow2 hat2 hlt2))
        have hB2 : Below w.heap.size w w2 := ((hbel.alloc (by omega) _).drew).grown hgrow2 (by simp; omega) hob2
        have HB2 : Hid (Below w.heap.size w w2) := hB2
        clear hgrow2 hat2 hlt2 hB2
        go_wp2
        go_roundg (gk - 1)
        case measure => omega
        case rel =>
          obtain ⟨hl, hs⟩ := HS.out
          have hlen : (run false f z N (k + 1)).length = l + 1 := by rw [hs]; simp [← hl]
          refine ⟨k + 1, by omega, by go_num, HB2.out, some ⟨g2, 0, none⟩, cap2, by rw [hlen], ?_⟩
          rw [hlen, hs, List.append_nil, List.map_append]
          exact hown2
      · rw [if_neg hlt2] at hstep
        have elt : ¬ (k : Int) + 1 < (N : Int) := by omega
        have HS : Hid (l = L.length ∧ run false f z N (k + 1) = L ++ [] ++ []) := ⟨hl, hstep⟩
        clear hx hy hL hl hstep hcell hfit
        go_wp2
        go_roundg (gk - 1)
        case measure => omega
        case rel =>
          obtain ⟨hl, hs⟩ := HS.out
          have hlen : (run false f z N (k + 1)).length = l := by rw [hs]; simp [← hl]
          refine ⟨k + 1, by omega, by go_num, hbel, a, cp, by rw [hlen], ?_⟩
          rw [hlen, hs, List.append_nil, List.append_nil]
          exact hown
    · obtain rfl : k = N := by omega
      go_wp2
      go_ret
      exact ⟨a, cp, rfl, hbel, Strs.of_owns hown⟩
end Go.Proofs.Qxb6602085a
