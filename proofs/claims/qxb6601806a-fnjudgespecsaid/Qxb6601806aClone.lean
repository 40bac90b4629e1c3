/-
  cloneBytes: what the Go text does, for every []byte of at most 2^20 bytes.
-/
import Derived.Test.Qxb6601806aProg
import Derived.Test.Qxb6601806aBase
namespace Go.Proofs.Qxb6601806a
open Go.RowKit
theorem Try.info5 : (Try.prog.info? 5).map (fun i => (i.zero, i.size, i.bytes)) = some (some (.int .u8 0), 1, 1) := by kernel_rfl
theorem fillByte (z : Nat → Int) (i k : Nat) : (if i = k then Value.int .u8 (z k) else Value.int .u8 (if i < k then z i else 0)) = Value.int .u8 (if i < k + 1 then z i else 0) := by
  by_cases e : i = k
  · subst e; simp
  · have : (i < k + 1) ↔ (i < k) := by omega
    simp [e, this]
set_option maxHeartbeats 800000 in
theorem cloneBytes_some (b off c n : Nat) (z : Nat → Int) (w : World) (hn : n ≤ 1048576)
    (hcell : ∀ i, i < n → w.cell? ⟨b, off + i, none⟩ = some (.int .u8 (z i))) :
    Calls Try.prog 30 #[.slice (some ⟨b, off, none⟩) n c] w fun e w' => e = .returned (.slice (some ⟨w.heap.size, 0, none⟩) n n) ∧ Below w.heap.size w w' ∧ w'.rowIs w.heap.size 5 n (fun i => .int .u8 (z i)) := by
  have hmk := run_make_row' (P := Try.prog) 33 5 (.int .u8 0) 1 Try.underlying33 Try.info5 rfl .i64 .i64 n (by omega) (by omega)
  have q33 : ∀ (w : World) (a : Option Addr) (n c n' c' : Nat), (binOp .eql 33 (.slice a n c) (.slice none n' c')).run Try.prog w = .ok (.bool a.isNone) w := fun w a n c n' c' => Lib.run_eql_slice_nil w _ _ a n c n' c' Try.underlying33
  have hW0 := World.rowIs_made w (.int .u8 0) n 5
  have hB0 : Below w.heap.size w (w.alloc (Obj.cells (madeCells #[Value.int IntKind.u8 0] n) 5)) := (Below.refl _ _).alloc (Nat.le_refl _) _
  go_enter Try.func30, Try.ntmps30
  go_wp2
  go_loopw [4] (fun i wr => ∃ k : Nat, k ≤ n ∧ i = .int .i64 k ∧ Below w.heap.size w wr ∧ wr.rowIs w.heap.size 5 n (fun j => .int .u8 (if j < k then z j else 0))) (fun i _ => n - (intOf i).toNat)
  case atStart => exact ⟨0, Nat.zero_le _, rfl, hB0, by simpa using hW0⟩
  case round =>
    obtain ⟨k, hk, rfl, hbel, hrow⟩ := hrel
    by_cases hlt : k < n
    · have h1 : wr.cell? ⟨b, off + k, none⟩ = some (.int .u8 (z k)) := by
        rw [hbel.cell (p := ⟨b, off + k, none⟩) (by exact lt_of_cell (hcell k hlt))]; exact hcell k hlt
      have h2 : wr.frozen? ⟨w.heap.size, k, none⟩ = false := hrow.frozen k
      have h3 : wr.cell? ⟨w.heap.size, k, none⟩ = some (.int .u8 0) := by simpa using hrow.cell hlt
      clear hmk hW0 hB0
      go_wp2
      go_roundw
      case rel => exact ⟨k + 1, by omega, by go_num, hbel.setCell (by simp) _, (hrow.set k _).congr (fun i hi => fillByte z i k)⟩
      case measure => simp [intOf]; omega
    · go_wp2
      go_ret
      exact ⟨rfl, hbel, hrow.congr (fun i hi => by simp; omega)⟩

set_option maxHeartbeats 800000 in
/-- An empty one that is not nil: of its address nothing is asked. -/
theorem cloneBytes_empty (a : Addr) (c : Nat) (w : World) :
    Calls Try.prog 30 #[.slice (some a) 0 c] w fun e w' => e = .returned (.slice (some ⟨w.heap.size, 0, none⟩) 0 0) ∧ Below w.heap.size w w' := by
  have hmk := run_make_row' (P := Try.prog) 33 5 (.int .u8 0) 1 Try.underlying33 Try.info5 rfl .i64 .i64 0 (by omega) (by omega)
  have q33 : ∀ (w : World) (a : Option Addr) (n c n' c' : Nat), (binOp .eql 33 (.slice a n c) (.slice none n' c')).run Try.prog w = .ok (.bool a.isNone) w := fun w a n c n' c' => Lib.run_eql_slice_nil w _ _ a n c n' c' Try.underlying33
  simp only [Int.natCast_zero] at hmk
  go_enter Try.func30, Try.ntmps30
  go_wp2
  refine wp_loop_rounds 1 ?_
  rw [rounds_succ]
  go_wp2
  go_ret
  exact ⟨rfl, (Below.refl _ _).alloc (Nat.le_refl _) _⟩
set_option maxHeartbeats 800000 in
theorem cloneBytes_nil (c : Nat) (w : World) :
    Calls Try.prog 30 #[.slice none 0 c] w fun e w' => e = .returned (.slice none 0 0) ∧ w' = w := by
  have q33 : ∀ (w : World) (a : Option Addr) (n c n' c' : Nat), (binOp .eql 33 (.slice a n c) (.slice none n' c')).run Try.prog w = .ok (.bool a.isNone) w := fun w a n c n' c' => Lib.run_eql_slice_nil w _ _ a n c n' c' Try.underlying33
  go_enter Try.func30, Try.ntmps30
  go_wp2
  go_ret
  exact ⟨rfl, rfl⟩
/-- cloneBytes makes a copy, in new memory. -/
theorem cloneBytes_any (v : Value) (bs : List Int) (lo : Nat) (w : World) (h : IsBytes w lo v bs) (hn : bs.length ≤ 1048576) :
    Calls Try.prog 30 #[v] w fun e w' => ∃ a' c', e = .returned (.slice a' bs.length c') ∧ Below w.heap.size w w' ∧ IsBytes w' w.heap.size (.slice a' bs.length c') bs := by
  obtain ⟨a, c, rfl, hc, hw, h | ⟨b, off, rfl, hb, hcell⟩⟩ := h
  · rw [h]
    cases a with
    | none =>
      refine (cloneBytes_nil c w).mono ?_
      rintro e w' ⟨rfl, rfl⟩
      exact ⟨none, 0, rfl, Below.refl _ _, none, 0, by rw [h], by omega, hw, .inl h⟩
    | some a =>
      refine (cloneBytes_empty a c w).mono ?_
      rintro e w' ⟨rfl, hb⟩
      exact ⟨_, 0, rfl, hb, _, 0, by rw [h], by omega, hw, .inl h⟩
  · refine (cloneBytes_some b off c bs.length (fun i => bs.getD i 0) w hn hcell).mono ?_
    rintro e w' ⟨rfl, hb, hrow⟩
    exact ⟨_, _, rfl, hb, rowIs_isBytes hrow (Nat.le_refl _) (fun i hi => rfl) hw⟩
end Go.Proofs.Qxb6601806a
