/-
  Rows.FnWriteRowsSpecCardSaid, proved: the row's statement by the walk of Qxb6602123aDoorFn5; the card by the given tie.
-/
import Derived.Test.Qxb6602123aDoorRows
import Derived.Test.Qxb6602123aDoorTie
import Derived.Test.Qxb6602123aDoorCards
import Derived.Test.Qxb6602123aDoorOpen
import Derived.Test.Qxb6602123aDoorFn5
import Derived.WalkKit
import Derived.ProofKit
import Derived.OpenShut
import Derived.ShutString
import Derived.ChangeOld
import Derived.Below
import Derived.SevenTiedAt
namespace Go.Proofs.Qxb6602123aDoor.fnWriteRowsSpec
open Go.ChangeShapes Go.WideShapes Go.ChangeAt Go.RowKit
open Go.ChangeMaps (open_string shut_string)

theorem own : ownKnob Tryd.prog.godebug = none := by kernel_rfl
theorem laidOut : laidOutB Tryd.prog = true := by kernel_rfl
set_option maxRecDepth 100000 in
theorem lifted (os : Os) (started : os.Started) (H : Type) (enc : TypeId × Value → H) :
    ReturnsInHanded {} Tryd.checked os 5 .any (fun w args => (Rows.fnWriteRowsSpecSpec.pre enc Tryd.prog Tryd.f5 [] false w args ∧ laidMetH Tryd.prog laid3 w) ∧ sizedMet enc Tryd.prog Tryd.f5 (OpenSpec.ofChange Rows.fnWriteRowsSpecSpec) false w args)
      (Rows.fnWriteRowsSpecSpec.post enc Tryd.prog Tryd.f5 false true false false) := by
  refine returnsInHanded_of_change_and (C := Tryd.checked) (X := fun w _ => laidMetH Tryd.prog laid3 w) (fun _ _ _ hh h => h.of_heap hh) own started (by kernel_rfl) Tryd.func5
    (ChangeSpec.witness_shaped (enc := enc) (C := Tryd.checked) (os := os) (X := fun w _ => laidMetH Tryd.prog laid3 w) false (World.doorLaid Tryd.prog 400 os) #[.agg #[.string ByteArray.empty, .int .u8 0, .string ByteArray.empty, .bool false, .int .i64 0, .bool false, .bool false, .bool false, .bool false, .slice none 0 0], .string ByteArray.empty, .int .i64 0, .int .i64 0] 8 rfl (World.shaped_of_RefB (by kernel_rfl) (by kernel_rfl)) (by kernel_rfl) (by kernel_rfl) (by kernel_rfl) (door_met os _)) ?_
  intro W base args ds gs before hval0 hW _ _ hL _
  have hval : ∀ (j : Nat) t v, Tryd.f5.params[j]? = some t → args[j]? = some v → Value.okWide Tryd.prog W .any base t v := hval0
  have hW' := hW
  obtain ⟨p, q, hA0, hV, rfl, hfz, hnd⟩ := hW
  have hA : DataW.TrodAll enc Tryd.prog W 0 (fun _ => true) true Tryd.f5.params.toList args.toList ds p := hA0
  rw [Tryd.params5] at hA hval
  obtain ⟨v0, vs0, d0, ds0, p0, q0, hargs, rfl, rfl, h0, r0⟩ := trodAll_cons hA
  obtain ⟨v1, vs1, d1, ds1, p1, q1, rfl, rfl, rfl, h1, r1⟩ := trodAll_cons r0
  obtain ⟨v2, vs2, d2, ds2, p2, q2, rfl, rfl, rfl, h2, r2⟩ := trodAll_cons r1
  obtain ⟨v3, vs3, d3, ds3, p3, q3, rfl, rfl, rfl, h3, r3⟩ := trodAll_cons r2
  obtain ⟨rfl, rfl, rfl⟩ := trodAll_nil r3
  obtain rfl : args = #[v0, v1, v2, v3] := by cases args; simp_all
  obtain ⟨rfl, rfl⟩ := trodVars_none hV
  obtain ⟨a1, rfl, rfl, rfl, w1⟩ := open_string Tryd.underlying9 (hval 1 9 v1 rfl rfl) h1
  obtain ⟨a2, rfl, rfl, rfl, w2⟩ := open_int Tryd.underlying3 (hval 2 3 v2 rfl rfl) h2
  have g2 := bounds_i64 w2
  obtain ⟨a3, rfl, rfl, rfl, w3⟩ := open_int Tryd.underlying3 (hval 3 3 v3 rfl rfl) h3
  have g3 := bounds_i64 w3
  obtain ⟨cs, rfl, hsz⟩ := okWide_struct Tryd.underlying24 (hval 0 24 v0 rfl rfl)
  rw [Tryd.cells24] at hsz
  have k0 := h0
  obtain ⟨fuel, hf⟩ := h0
  have h0' : DataW.trod enc Tryd.prog W 0 (fun _ => true) true fuel 24 cs.toList = some (d0, p0) := by simpa [Value.cells] using hf
  have lt0 : ∀ x ∈ p0, x.block < W.heap.size := by obtain ⟨m, hm⟩ := k0; exact DataW.trod_lt m _ _ _ hm
  obtain ⟨nm, pm, qq, mp, nb, b1, b2, b3, b4, a, n, c, S, hcs, hS, hnil, hnm, hpm, hn⟩ := dia_of hsz h0'
  subst hcs
  have ht := tab_of_laid hL
  clear hA0 hval0
  refine (fn5_any nm pm qq mp nb b1 b2 b3 b4 a n c S a1 a2 a3 W hS hnil hnm hpm hn w1 g2 g3 ht).mono fun e W' ⟨he, bel⟩ => ?_
  subst he
  exact ⟨_, rfl, _, _, _, [], _, [], hW', trodAll_mk1 (shut_bool Tryd.underlying4 _), (trodAll_cons_mk (Below.trod laidOut (by kernel_rfl) (of_decide_eq_true (by kernel_rfl)) k0 bel lt0) (trodAll_cons_mk (shut_string Tryd.underlying9 w1) (trodAll_cons_mk (shut_int Tryd.underlying3 w2) (trodAll_cons_mk (shut_int Tryd.underlying3 w3) trodAll_mk0)))), rfl, bel.frame _, fun h => by cases h⟩

theorem over : Rows.FnWriteRowsSpecSaid :=
  OpenClaim.holds_of_wide 5 Tryd.f5 rfl rfl rfl rfl rfl rfl rfl ⟨rfl, rfl, rfl, rfl, rfl⟩ rfl rfl rfl rfl rfl (by kernel_rfl) Tryd.func5 (by kernel_rfl)
    (of_decide_eq_true (by kernel_rfl)) (by unfold Func.isWrapper; first | (rw [if_pos (by decide +kernel)]; kernel_rfl) | (rw [if_neg (by decide +kernel)]; exact ⟨rfl, rfl⟩))
    (fun os started H enc _ => lifted os started H enc)

/-- THE STATEMENT: the tied card. -/
theorem proved : Rows.FnWriteRowsSpecCardSaid :=
  Claim7.holds_tied_plain_at .later [] [.data, .data, .data] true (true, "c8621fdd1e834f45a8edcd68c7d058a6e1f7adfeba3c0ead6e39cc2b88a7c299") false
    over (fun _ h => by cases h) (by kernel_rfl) (fun _ h => by cases h) fnWriteRowsSpec_row_tie rfl ⟨rfl, rfl⟩ (by kernel_rfl) rfl
    (fun f fn hf hfn => by
      obtain rfl : f = 5 := Option.some.inj ((show Tryd.prog.funcNamed "example.com/rowsmith/rowsmith/zzlaws_root_b1.FnWriteRowsSpec" = some 5 by kernel_rfl).symm.trans hf) |>.symm
      obtain rfl : fn = Tryd.f5 := (Option.some.inj (Tryd.func5.symm.trans hfn)).symm
      exact ⟨by kernel_rfl, fun j t ht => by
        rw [Tryd.params5] at ht
        have hm : t ∈ [24, 9, 3, 3] := by
          have h3 := Array.mem_of_getElem? ht
          simpa using h3
        have h4 := List.all_eq_true.1 (show ([24, 9, 3, 3].all fun t => !(Tryd.prog.wantsStandIn t)) = true by kernel_rfl) t hm
        have h5 : Tryd.prog.wantsStandIn t = false := by simpa using h4
        exact h5⟩)
    (by kernel_rfl)
end Go.Proofs.Qxb6602123aDoor.fnWriteRowsSpec
