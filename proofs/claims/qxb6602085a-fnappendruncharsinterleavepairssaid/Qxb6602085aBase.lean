/-
  The words of one run, as plain lists; integers in memory. No Go text in it.
-/
import Derived.WalkKit
import Derived.WalkSpells
import Derived.Deep.OwnRows
namespace Go.Proofs.Qxb6602085a
open Go.RowKit

theorem lt_of_cell {w : World} {b o : Nat} {v : Value} (h : w.cell? ⟨b, o, none⟩ = some v) : b < w.heap.size := by
  by_cases hb : b < w.heap.size
  · exact hb
  · have : w.heap[b]? = none := by simp; omega
    simp [World.cell?, this] at h
theorem below_cell {w w' : World} (hb : Below w.heap.size w w') {b o : Nat} {v : Value} (hc : w.cell? ⟨b, o, none⟩ = some v) : w'.cell? ⟨b, o, none⟩ = some v := by
  rw [hb.cell (p := ⟨b, o, none⟩) (by exact lt_of_cell hc)]; exact hc

/-- The n ints at the address a are z 0, z 1, .. -/
def Ints (w : World) (a : Option Addr) (n : Nat) (z : Nat → Int) : Prop := n = 0 ∨ ∃ b off, a = some ⟨b, off, none⟩ ∧ ∀ i, i < n → w.cell? ⟨b, off + i, none⟩ = some (.int .i64 (z i))
theorem Ints.below {w w' : World} {a : Option Addr} {n : Nat} {z : Nat → Int} (h : Ints w a n z) (hb : Below w.heap.size w w') : Ints w' a n z := by
  rcases h with h | ⟨b, off, h1, h2⟩
  · exact .inl h
  · exact .inr ⟨b, off, h1, fun i hi => below_cell hb (h2 i hi)⟩
theorem Ints.congr {w : World} {a : Option Addr} {n : Nat} {z z' : Nat → Int} (h : Ints w a n z) (e : ∀ i, i < n → z i = z' i) : Ints w a n z' := by
  rcases h with h | ⟨b, off, h1, h2⟩
  · exact .inl h
  · exact .inr ⟨b, off, h1, fun i hi => by rw [h2 i hi, e i hi]⟩

/-- The character k of the run, and the pair that begins with it. -/
def chr (f : ByteArray) (c : Nat → Nat) (k : Nat) : ByteArray := f.extract (c k) (c (k + 1))
def pair (f : ByteArray) (c : Nat → Nat) (k : Nat) : ByteArray := f.extract (c k) (c (k + 2))
/-- What the loop of appendRun has gathered behind k rounds of N. -/
def run (chars : Bool) (f : ByteArray) (c : Nat → Nat) (N : Nat) : Nat → List ByteArray
  | 0 => []
  | k + 1 => run chars f c N k ++ (if chars then [chr f c k] else []) ++ (if k + 1 < N then [pair f c k] else [])

theorem run_true_length (f : ByteArray) (c : Nat → Nat) (N : Nat) : ∀ k, k < N → (run true f c N k).length = 2 * k
  | 0, _ => rfl
  | k + 1, h => by
    simp only [run, if_true, List.length_append, run_true_length f c N k (by omega), if_pos h, List.length_cons, List.length_nil]
    omega
theorem run_false_length (f : ByteArray) (c : Nat → Nat) (N : Nat) : ∀ k, k < N → (run false f c N k).length = k
  | 0, _ => rfl
  | k + 1, h => by
    simp only [run, Bool.false_eq_true, if_false, List.length_append, run_false_length f c N k (by omega), if_pos h, List.length_cons, List.length_nil]
theorem run_prefix (chars : Bool) (f : ByteArray) (c : Nat → Nat) (N : Nat) {k m : Nat} (h : k ≤ m) : ∃ r, run chars f c N m = run chars f c N k ++ r := by
  induction m with
  | zero => exact ⟨[], by obtain rfl : k = 0 := by omega
                          simp⟩
  | succ m ih =>
    by_cases e : k = m + 1
    · subst e; exact ⟨[], by simp⟩
    · obtain ⟨r, hr⟩ := ih (by omega)
      exact ⟨_, by rw [run, hr, List.append_assoc, List.append_assoc]⟩
def bytes0 : ByteArray := ByteArray.empty
theorem getD_prefix {l r s : List ByteArray} {i : Nat} (h : l = r ++ s) (hi : i < r.length) : l.getD i bytes0 = r.getD i bytes0 := by
  subst h
  simp [List.getD, List.getElem?_append_left hi]
/-- The whole run with the characters. -/
theorem with_length (f : ByteArray) (c : Nat → Nat) {N : Nat} (h : 0 < N) : (run true f c N N).length = 2 * N - 1 := by
  obtain ⟨k, rfl⟩ : ∃ k, N = k + 1 := ⟨N - 1, by omega⟩
  rw [run, List.length_append, List.length_append, run_true_length f c (k + 1) k (by omega)]
  simp
  omega
theorem without_length (f : ByteArray) (c : Nat → Nat) {N : Nat} (h : 0 < N) : (run false f c N N).length = N - 1 := by
  obtain ⟨k, rfl⟩ : ∃ k, N = k + 1 := ⟨N - 1, by omega⟩
  rw [run, List.length_append, List.length_append, run_false_length f c (k + 1) k (by omega)]
  simp
theorem with_chr (f : ByteArray) (c : Nat → Nat) {N k : Nat} (h : k < N) : (run true f c N N).getD (2 * k) bytes0 = chr f c k := by
  obtain ⟨r, hr⟩ := run_prefix true f c N (show k + 1 ≤ N by omega)
  have hl := run_true_length f c N k h
  rw [getD_prefix hr (by simp only [run, if_true, List.length_append, hl, List.length_cons, List.length_nil]; omega)]
  rw [run, getD_prefix rfl (by simp only [if_true, List.length_append, hl, List.length_cons, List.length_nil]; omega)]
  simp [List.getD, hl]
theorem with_pair (f : ByteArray) (c : Nat → Nat) {N k : Nat} (h : k + 1 < N) : (run true f c N N).getD (2 * k + 1) bytes0 = pair f c k := by
  obtain ⟨r, hr⟩ := run_prefix true f c N (show k + 1 ≤ N by omega)
  have hl := run_true_length f c N k (by omega)
  rw [getD_prefix hr (by simp only [run, if_true, if_pos h, List.length_append, hl, List.length_cons, List.length_nil]; omega)]
  have h2 : (run true f c N k ++ [chr f c k]).length = 2 * k + 1 := by simp [hl]
  simp only [run, if_true, if_pos h]
  simp only [List.getD]
  rw [List.getElem?_append_right (by omega), h2]
  simp
theorem without_pair (f : ByteArray) (c : Nat → Nat) {N k : Nat} (h : k + 1 < N) : (run false f c N N).getD k bytes0 = pair f c k := by
  obtain ⟨r, hr⟩ := run_prefix false f c N (show k + 1 ≤ N by omega)
  have hl := run_false_length f c N k (by omega)
  rw [getD_prefix hr (by simp only [run, Bool.false_eq_true, if_false, if_pos h, List.length_append, hl, List.length_cons, List.length_nil]; omega)]
  simp only [run, Bool.false_eq_true, if_false, if_pos h, List.append_nil]
  simp only [List.getD]
  rw [List.getElem?_append_right (by omega), hl]
  simp
/-- The cuts are bounds inside f. -/
def Fit (c : Nat → Nat) (n L : Nat) : Prop := ∀ k, k < n → c k ≤ L ∧ (0 < k → c (k - 1) ≤ c k)
theorem Fit.step {c : Nat → Nat} {n L k : Nat} (h : Fit c n L) (hk : k + 1 < n) : c k ≤ c (k + 1) := by
  have := (h (k + 1) hk).2 (by omega)
  simpa using this
end Go.Proofs.Qxb6602085a
