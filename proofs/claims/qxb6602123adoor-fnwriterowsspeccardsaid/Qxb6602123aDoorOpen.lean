/-
  From the reading of a Dialect, and from the listed tables, to what the walks ask of memory.
-/
import Derived.Test.Qxb6602123aDoorRows
import Derived.Test.Qxb6602123aDoorBox
import Derived.ProofKit
import Derived.OpenShut
import Derived.LaidMore
import Derived.Stop.LaidErr
import Derived.Stop.Joined
import Derived.Deep.Strs
namespace Go.Proofs.Qxb6602123aDoor
open Go.ChangeShapes Go.WideShapes Go.ChangeAt Go.RowKit
theorem Tryd.cells24 : Tryd.prog.cellsOf 24 = 10 := by kernel_rfl
theorem Tryd.cells9 : Tryd.prog.cellsOf 9 = 1 := by kernel_rfl
theorem Tryd.cells5 : Tryd.prog.cellsOf 5 = 1 := by kernel_rfl
theorem Tryd.cells4 : Tryd.prog.cellsOf 4 = 1 := by kernel_rfl
theorem Tryd.cells3 : Tryd.prog.cellsOf 3 = 1 := by kernel_rfl
theorem Tryd.cells22 : Tryd.prog.cellsOf 22 = 1 := by kernel_rfl
theorem gPow : Tryd.prog.globalNamed "internal/strconv.uint64pow10" = some 3 := by kernel_rfl
theorem tPow : (Tryd.prog.globals[3]?).map (·.type) = some 102 := by kernel_rfl
theorem tabEq : (Rows.laid_internal_strconv_uint64pow10 : DataW Unit) = Lib.tabData .u64 Lib.pow10Tab := by kernel_rfl

/-- The three tables as the rows list them. -/
abbrev laid3 : List (String × DataW Unit) := [("math/bits.deBruijn32tab", Rows.laid_math_bits_deBruijn32tab), ("math/bits.deBruijn64tab", Rows.laid_math_bits_deBruijn64tab), ("internal/strconv.uint64pow10", Rows.laid_internal_strconv_uint64pow10)]
theorem tab_of_laid {W : World} (h : laidMetH Tryd.prog laid3 W) : Lib.TabIs Tryd.prog W "internal/strconv.uint64pow10" .u64 Lib.pow10Tab := by
  rw [MakeChecks.laidMetH_plain _ _ _ (by kernel_rfl)] at h
  have h2 := h.tail.tail
  rw [tabEq] at h2
  exact Lib.tabIs_of_head gPow tPow Tryd.underlying102 Tryd.underlying89 (by kernel_rfl) (by kernel_rfl) h2
/-- The door's own heap meets the condition. -/
theorem door_met (os : Os) (args : Array Value) : laidMetH Tryd.prog laid3 ((World.doorLaid Tryd.prog 400 os).forCall (fun _ _ => 0) ⟨#[], args, []⟩).memory :=
  laidMetH_of_parts3 (fuel := 8) (laidMet_of_run' 8 (by kernel_rfl) (by kernel_rfl)) (by kernel_rfl) (by kernel_rfl)

section
variable {H : Type} {enc : TypeId × Value → H} {W : World} {fuel : Nat} {x : DataW H × List MemPlace}
theorem strs_of {v : Value} (h : DataW.trod enc Tryd.prog W 0 (fun _ => true) true fuel 22 [v] = some x) : ∃ a n c S, v = .slice a n c ∧ Strs W a n S ∧ (a = none → n = 0) ∧ n ≤ maxLen := by
  rcases Go.Deep.open_strs Tryd.underlying22 Tryd.underlying9 Tryd.cells9 h with ⟨hcs, _⟩ | ⟨a, l, c, m, Sx, hcs, _, hl, hm, hmm, _, hx⟩
  · obtain rfl : v = .slice none 0 0 := by simpa using hcs
    exact ⟨none, 0, 0, fun _ => ⟨#[]⟩, rfl, .inl rfl, fun _ => rfl, Nat.zero_le _⟩
  · obtain rfl : v = .slice (some a) l c := by simpa using hcs
    simp only [if_true] at hmm
    refine ⟨some a, l, c, Sx, rfl, ?_, fun e => by simp at e, Nat.le_trans hl hm⟩
    rcases Nat.eq_zero_or_pos l with h0 | h0
    · exact .inl h0
    · obtain ⟨b, off, spot⟩ := a
      have hspot : spot = none := by simpa [Addr.add] using World.cell?_spot (hx 0 (by omega)).1
      subst hspot
      exact .inr ⟨b, off, rfl, fun i hi => by
        obtain ⟨h1, h2⟩ := hx i (by omega)
        rw [add_plain] at h1
        exact ⟨h1, h2⟩⟩
set_option maxRecDepth 100000 in
theorem dia_of {cs : Array Value} (hc : cs.size = 10) (h : DataW.trod enc Tryd.prog W 0 (fun _ => true) true fuel 24 cs.toList = some x) :
    ∃ nm pm q mp nb b1 b2 b3 b4 a n c S, cs = #[.string nm, .int .u8 q, .string pm, .bool nb, .int .i64 mp, .bool b1, .bool b2, .bool b3, .bool b4, .slice a n c] ∧ Strs W a n S ∧ (a = none → n = 0) ∧ nm.size ≤ maxLen ∧ pm.size ≤ maxLen ∧ n ≤ maxLen := by
  obtain ⟨xs, m, _, _, _, hlen, hf⟩ := DataW.trod_struct Tryd.underlying24 h
  obtain ⟨l⟩ := cs
  match l, hc with
  | [c0, c1, c2, c3, c4, c5, c6, c7, c8, c9], _ =>
    match xs, hlen with
    | [x0, x1, x2, x3, x4, x5, x6, x7, x8, x9], _ =>
      have f0 := hf 0 _ rfl
      have f1 := hf 1 _ rfl
      have f2 := hf 2 _ rfl
      have f3 := hf 3 _ rfl
      have f4 := hf 4 _ rfl
      have f5 := hf 5 _ rfl
      have f6 := hf 6 _ rfl
      have f7 := hf 7 _ rfl
      have f8 := hf 8 _ rfl
      have f9 := hf 9 _ rfl
      simp only [List.getElem?_cons_zero, List.getElem?_cons_succ] at f0 f1 f2 f3 f4 f5 f6 f7 f8 f9
      obtain ⟨nm, e0, _, s0⟩ := DataW.trod_string Tryd.underlying9 f0
      obtain ⟨q, e1, _, _⟩ := DataW.trod_int Tryd.underlying5 f1
      obtain ⟨pm, e2, _, s2⟩ := DataW.trod_string Tryd.underlying9 f2
      obtain ⟨nb, e3, _⟩ := DataW.trod_bool Tryd.underlying4 f3
      obtain ⟨mp, e4, _, _⟩ := DataW.trod_int Tryd.underlying3 f4
      obtain ⟨b1, e5, _⟩ := DataW.trod_bool Tryd.underlying4 f5
      obtain ⟨b2, e6, _⟩ := DataW.trod_bool Tryd.underlying4 f6
      obtain ⟨b3, e7, _⟩ := DataW.trod_bool Tryd.underlying4 f7
      obtain ⟨b4, e8, _⟩ := DataW.trod_bool Tryd.underlying4 f8
      obtain ⟨a, n, c, S, rfl, hS, hnil, hn⟩ := strs_of f9
      obtain rfl : c0 = .string nm := by simpa [Tryd.cells9] using e0
      obtain rfl : c1 = .int .u8 q := by simpa [Tryd.cells5] using e1
      obtain rfl : c2 = .string pm := by simpa [Tryd.cells9] using e2
      obtain rfl : c3 = .bool nb := by simpa [Tryd.cells4] using e3
      obtain rfl : c4 = .int .i64 mp := by simpa [Tryd.cells3] using e4
      obtain rfl : c5 = .bool b1 := by simpa [Tryd.cells4] using e5
      obtain rfl : c6 = .bool b2 := by simpa [Tryd.cells4] using e6
      obtain rfl : c7 = .bool b3 := by simpa [Tryd.cells4] using e7
      obtain rfl : c8 = .bool b4 := by simpa [Tryd.cells4] using e8
      exact ⟨nm, pm, q, mp, nb, b1, b2, b3, b4, a, n, c, S, rfl, hS, hnil, s0, s2, hn⟩
end
end Go.Proofs.Qxb6602123aDoor
