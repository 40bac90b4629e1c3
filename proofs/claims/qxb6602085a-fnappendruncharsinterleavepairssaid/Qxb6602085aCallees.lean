/-
  The callees of the law: what the Go texts do.
-/
import Derived.Test.Qxb6602085aProg
import Derived.Test.Qxb6602085aBase
import Derived.Deep.LoopGhost
import Derived.Deep.RegionHeld3
import Derived.Deep.DrawnRows
import Derived.Deep.AppendLies
import Derived.Deep.DeepCutAuto
import Derived.BigQuiet
import Derived.Deep.QuietTactic
import Derived.WalkSmall
namespace Go.Proofs.Qxb6602085a
open Go.RowKit Go
attribute [local go_sem ↓] Go.wp_at_zero Go.wp_at_succ
theorem Try.info3 : (Try.prog.info? 3).map (fun i => (i.zero, i.size, i.bytes)) = some (some (.int .i64 0), 1, 8) := by kernel_rfl
theorem Try.info9 : (Try.prog.info? 9).map (fun i => (i.zero, i.size, i.bytes)) = some (some (.string ⟨#[]⟩), 1, 16) := by kernel_rfl
set_option maxHeartbeats 800000 in
theorem zz17_any (f : ByteArray) (a : Option Addr) (n c : Nat) (w : World) (hf : f.size ≤ maxLen) (hn : n ≤ maxLen) :
    Calls Try.prog 17 #[.string f, .slice a n c] w fun e w' => ∃ r, e = .returned (.bool r) ∧ w' = w ∧ (r = true → f.size ≤ 1048576 ∧ n ≤ 1048576) := by
  unfold maxLen at hf hn
  by_cases h1 : f.size ≤ 1048576
  · by_cases h2 : n ≤ 1048576
    · go_enter Try.func17, Try.ntmps17
      go_wp2
      · go_ret
        exact ⟨_, rfl, rfl, fun _ => ⟨h1, h2⟩⟩
      · go_ret
        exact ⟨_, rfl, rfl, fun _ => ⟨h1, h2⟩⟩
    · go_enter Try.func17, Try.ntmps17
      go_wp2
      go_ret
      exact ⟨false, rfl, rfl, fun h => by simp at h⟩
  · go_enter Try.func17, Try.ntmps17
    go_wp2
    go_ret
    exact ⟨false, rfl, rfl, fun h => by simp at h⟩
theorem fillInt (z : Nat → Int) (i k : Nat) : (if i = k then Value.int .i64 (z k) else Value.int .i64 (if i < k then z i else 0)) = Value.int .i64 (if i < k + 1 then z i else 0) := by
  by_cases e : i = k
  · subst e; simp
  · have : (i < k + 1) ↔ (i < k) := by omega
    simp [e, this]
def ClonePost (w : World) (n : Nat) (z : Nat → Int) (e : Ending) (w' : World) : Prop := ∃ a' c', e = .returned (.slice a' n c') ∧ Below w.heap.size w w' ∧ Ints w' a' n z
set_option maxHeartbeats 1600000 in
theorem cloneInts_any (a : Option Addr) (n c : Nat) (z : Nat → Int) (w : World) (hn : n ≤ 1048576) (h : Ints w a n z) (hnil : a = none → n = 0) :
    Calls Try.prog 19 #[.slice a n c] w (ClonePost w n z) := by
  have q29 : ∀ (w : World) (a : Option Addr) (n c n' c' : Nat), (binOp .eql 29 (.slice a n c) (.slice none n' c')).run Try.prog w = .ok (.bool a.isNone) w := fun w a n c n' c' => Lib.run_eql_slice_nil w _ _ a n c n' c' Try.underlying29
  cases a with
  | none =>
    obtain rfl := hnil rfl
    go_enter Try.func19, Try.ntmps19
    go_wp2
    go_ret
    exact ⟨none, 0, rfl, Below.refl _ _, .inl rfl⟩
  | some ad =>
    have hmk := run_make_row' (P := Try.prog) 29 3 (.int .i64 0) 8 Try.underlying29 Try.info3 rfl .i64 .i64 n (by omega) (by omega)
    have hW0 := World.rowIs_made w (.int .i64 0) n 3
    have hB0 : Below w.heap.size w (w.alloc (Obj.cells (madeCells #[Value.int IntKind.i64 0] n) 3)) := (Below.refl _ _).alloc (Nat.le_refl _) _
    go_enter Try.func19, Try.ntmps19
    go_wp2
    go_loopg [4] n (fun g i wr => ∃ k : Nat, k + g = n ∧ i = .int .i64 k ∧ Below w.heap.size w wr ∧ wr.rowIs w.heap.size 3 n (fun j => .int .i64 (if j < k then z j else 0)))
    case atStart => exact ⟨0, by omega, rfl, hB0, by simpa using hW0⟩
    case round =>
      obtain ⟨k, hk, rfl, hbel, hrow⟩ := hrel
      by_cases hlt : k < n
      · obtain ⟨b, off, had, hcell⟩ := h.resolve_left (by omega)
        obtain rfl := Option.some.inj had
        have h1 : wr.cell? ⟨b, off + k, none⟩ = some (.int .i64 (z k)) := by
          rw [hbel.cell (p := ⟨b, off + k, none⟩) (by exact lt_of_cell (hcell k hlt))]; exact hcell k hlt
        have h2 : wr.frozen? ⟨w.heap.size, k, none⟩ = false := hrow.frozen k
        have h3 : wr.cell? ⟨w.heap.size, k, none⟩ = some (.int .i64 0) := by simpa using hrow.cell hlt
        clear hmk hW0 hB0 had
        go_wp2
        go_roundg (gk - 1)
        case measure => omega
        case rel => exact ⟨k + 1, by omega, by go_num, hbel.setCell (by simp) _, (hrow.set k _).congr (fun i hi => fillInt z i k)⟩
      · obtain rfl : k = n := by omega
        go_wp2
        go_ret
        exact ⟨_, _, rfl, hbel, .inr ⟨_, 0, rfl, fun i hi => by rw [Nat.zero_add, hrow.cell hi, if_pos hi]⟩⟩
def CutsPost (w : World) (f : ByteArray) (n : Nat) (z : Nat → Int) (e : Ending) (w' : World) : Prop := ∃ r, e = .returned (.bool r) ∧ (∃ m, w' = w.drewN m) ∧ (r = true → ∀ k, k < n → 0 ≤ z k ∧ z k ≤ f.size ∧ (0 < k → z (k - 1) ≤ z k))
set_option maxHeartbeats 2000000 in
theorem cutsFit_any (f : ByteArray) (a : Option Addr) (n c : Nat) (z : Nat → Int) (w : World) (_hf : f.size ≤ 1048576) (hn : n ≤ 1048576) (h : Ints w a n z) :
    Calls Try.prog 18 #[.string f, .slice a n c] w (CutsPost w f n z) := by
  go_enter Try.func18, Try.ntmps18
  go_wp2
  go_loopg [5] n (fun g i wr => ∃ d k : Nat, wr = w.drewN d ∧ k + g = n ∧ i = .int .i64 k ∧ ∀ j, j < k → 0 ≤ z j ∧ z j ≤ f.size ∧ (0 < j → z (j - 1) ≤ z j))
  case atStart => exact ⟨0, 0, rfl, by omega, rfl, fun j hj => absurd hj (by omega)⟩
  case round =>
    obtain ⟨d, k, rfl, hk, rfl, hall⟩ := hrel
    by_cases hlt : k < n
    · obtain ⟨b, off, rfl, hcell⟩ := h.resolve_left (by omega)
      have u1 := hcell k hlt
      have hkI : (k : Int) < (n : Int) := by omega
      have HA : Hid (∀ j, j < k → 0 ≤ z j ∧ z j ≤ f.size ∧ (0 < j → z (j - 1) ≤ z j)) := hall
      by_cases hz0 : z k < 0
      · obtain ⟨x, hx⟩ : ∃ x, x = z k := ⟨_, rfl⟩
        rw [← hx] at u1 hz0
        clear hall hx hcell
        go_wp2
        go_ret
        exact ⟨false, rfl, ⟨_, rfl⟩, fun h => by simp at h⟩
      · by_cases hz1 : (f.size : Int) < z k
        · obtain ⟨x, hx⟩ : ∃ x, x = z k := ⟨_, rfl⟩
          rw [← hx] at u1 hz0 hz1
          clear hall hx hcell
          go_wp2
          go_ret
          exact ⟨false, rfl, ⟨_, rfl⟩, fun h => by simp at h⟩
        · rcases Nat.eq_zero_or_pos k with hk0 | hk0
          · subst hk0
            obtain ⟨x, hx⟩ : ∃ x, x = z 0 := ⟨_, rfl⟩
            have HX : Hid (x = z 0) := hx
            rw [← hx] at u1 hz0 hz1
            rw [Nat.add_zero] at u1
            clear hall hx hcell
            go_wp2
            go_quiet (fail)
            go_wp2
            go_roundg (gk - 1)
            case measure => omega
            case rel =>
              refine ⟨_, 1, rfl, by omega, by go_num, fun j hj => ?_⟩
              obtain rfl : j = 0 := by omega
              rw [← HX.out]
              exact ⟨by omega, by omega, fun h => by omega⟩
          · have u2 := hcell (k - 1) (by omega)
            obtain ⟨x, hx⟩ : ∃ x, x = z k := ⟨_, rfl⟩
            obtain ⟨y, hy⟩ : ∃ y, y = z (k - 1) := ⟨_, rfl⟩
            have HX : Hid (x = z k ∧ y = z (k - 1)) := ⟨hx, hy⟩
            rw [← hx] at u1 hz0 hz1
            rw [← hy] at u2
            have hg : (0 : Int) < (k : Int) := by omega
            have hk1I : (0 : Int) ≤ (k : Int) - 1 := by omega
            have hk2I : (k : Int) - 1 < (n : Int) := by omega
            clear hall hx hy hcell
            by_cases hxy : x < y
            · go_wp2
              go_quiet (fail)
              go_wp2
              go_ret
              exact ⟨false, rfl, ⟨_, World.drewN_drewN _ _ _⟩, fun h => by simp at h⟩
            · go_wp2
              go_quiet (fail)
              go_wp2
              go_roundg (gk - 1)
              case measure => omega
              case rel =>
                refine ⟨_, k + 1, rfl, by omega, by go_num, fun j hj => ?_⟩
                by_cases e : j = k
                · subst e
                  obtain ⟨e1, e2⟩ := HX.out
                  rw [← e1, ← e2]
                  exact ⟨by omega, by omega, fun _ => by omega⟩
                · exact HA.out j (by omega)
    · obtain rfl : k = n := by omega
      go_wp2
      go_ret
      exact ⟨true, rfl, ⟨_, rfl⟩, fun _ => hall⟩
end Go.Proofs.Qxb6602085a
