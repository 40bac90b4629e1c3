/-
  modelRows: what the Go text does.
-/
import Derived.Test.Qxb6602123aDoorModelBase
namespace Go.Proofs.Qxb6602123aDoor
open Go.RowKit Go
theorem headT_len (n k : Nat) : (headT n k).length ≤ 3 := by
  unfold headT
  split
  · split <;> simp
  · simp
theorem tailT_len (n k : Nat) : (tailT n k).length ≤ 1 := by unfold tailT; split <;> simp
theorem modT_len {pm : ByteArray} {nb : Bool} {n : Nat} (hpm : pm.size ≤ 1048576) : ∀ k, k ≤ 65537 → (modT pm nb n k).length ≤ k * 1048610
  | 0, _ => by simp [modT]
  | k + 1, hk => by
    have h1 := modT_len (nb := nb) (n := n) hpm k (by omega)
    have h2 := parT_len (nb := nb) (k := k + 1) hpm (by omega)
    have h3 := headT_len n k
    have h4 := tailT_len n k
    simp only [modT, List.length_append]
    omega
theorem grown_ob {B : Nat} {v : Value} {l : List UInt8} {a w w' : World} (hb : Below B a w) (h : OB B v l w) (hg : w.grownBy w' v.ownBlock) (hB : B ≤ w.heap.size) : Below B a w' :=
  hb.grown hg hB (fun k hk => (World.ownsRow.lt h k hk).1)
theorem newByte (w : World) (b : UInt8) (t : Nat) (u : Value) (h : (Lib.byteCells [b])[t]? = some u) : (w.alloc (.cells #[.int .u8 b.toNat] 5)).cell? ((⟨w.heap.size, 0, none⟩ : Addr).add t) = some u := by
  rw [Lib.add_plain, Nat.zero_add, cell_new]
  simpa [Lib.byteCells] using h
def ModPost (pm : ByteArray) (nb : Bool) (pre : ByteArray) (rows m : Int) (w : World) (e : Ending) (w' : World) : Prop := e = .returned (.string ⟨(outT pm nb pre rows m).toArray⟩) ∧ Below w.heap.size w w'
set_option maxHeartbeats 4000000 in
set_option maxRecDepth 100000 in
theorem modelRows_any (nm pm : ByteArray) (q mp : Int) (nb b1 b2 b3 b4 : Bool) (a : Option Addr) (n c : Nat) (pre : ByteArray) (rows m : Int) (w : World) (hpm : pm.size ≤ 1048576) (hpre : pre.size ≤ 1048576) (hr : rows ≤ 65536) (hrm : rows.toNat * m.toNat ≤ 65536) :
    Calls Tryd.prog 23 #[.agg #[.string nm, .int .u8 q, .string pm, .bool nb, .int .i64 mp, .bool b1, .bool b2, .bool b3, .bool b4, .slice a n c], .string pre, .int .i64 rows, .int .i64 m] w (ModPost pm nb pre rows m w) := by
  obtain ⟨i0, hi, hz0, hz1, hz2⟩ := info_parts infoByte
  have hps : pre.data.toList.length = pre.size := by show _ = pre.data.size; simp
  have hBel : Below w.heap.size w (w.alloc (.cells #[.string nm, .int .u8 q, .string pm, .bool nb, .int .i64 mp, .bool b1, .bool b2, .bool b3, .bool b4, .slice a n c] 24)) := (Below.refl _ _).alloc (Nat.le_refl _) _
  have hX := Box.new w nm pm q mp nb b1 b2 b3 b4 a n c
  have hsW : (w.alloc (.cells #[.string nm, .int .u8 q, .string pm, .bool nb, .int .i64 mp, .bool b1, .bool b2, .bool b3, .bool b4, .slice a n c] 24)).heap.size = w.heap.size + 1 := by simp
  have h0 : OB (w.heap.size + 1) (.slice none 0 0) [] (w.alloc (.cells #[.string nm, .int .u8 q, .string pm, .bool nb, .int .i64 mp, .bool b1, .bool b2, .bool b3, .bool b4, .slice a n c] 24)) := World.ownsRow_nil _ _ _ _
  have hBw : w.heap.size + 1 ≤ (w.alloc (.cells #[.string nm, .int .u8 q, .string pm, .bool nb, .int .i64 mp, .bool b1, .bool b2, .bool b3, .bool b4, .slice a n c] 24)).heap.size := by omega
  go_enter Tryd.func23, Tryd.ntmps23
  go_wp2_with (at_builtin; refine Lib.wpList_append_own_string _ rfl _ _ 54 9 rfl (w.heap.size + 1) 5 i0 Tryd.underlying54 Tryd.underlying9 hi hz0 hz1 hz2 _ _ _ rfl h0 pre rfl ?c3 ?c4 ?c5 ?_)
  case c3 => unfold maxLen; simp; omega
  case c4 => simp; omega
  case c5 => exact hBw
  intro v2 w2 hown2 hgrow2 _
  have hb2 : Below (w.heap.size + 1) (w.alloc (.cells #[.string nm, .int .u8 q, .string pm, .bool nb, .int .i64 mp, .bool b1, .bool b2, .bool b3, .bool b4, .slice a n c] 24)) w2 := grown_ob (Below.refl _ _) h0 hgrow2 hBw
  have h2 : OB (w.heap.size + 1) v2 pre.data.toList w2 := by simpa using OB.str hown2
  have hX2 : Box w2 w.heap.size nm pm q mp nb b1 b2 b3 b4 a n c := hX.below (by omega) hb2
  have hbw : Below w.heap.size w w2 := hBel.trans (hb2.mono (by omega))
  have hs2 : w.heap.size + 1 ≤ w2.heap.size := by have := hb2.size; omega
  clear h0 hown2 hgrow2 hX hBel hb2 hBw hsW
  obtain ⟨ao, n', cap, rfl⟩ := h2.slice
  by_cases hr0 : rows ≤ 0
  · have hr0d : decide (rows ≤ 0) = true := by simp; omega
    have cv := conv_own h2
    go_wp2_with fail
    go_ret
    refine ⟨?_, hbw⟩
    have e : outT pm nb pre rows m = pre.data.toList := by simp [outT, show rows.toNat = 0 by omega, rowsT]
    rw [e]
    rfl
  · have hr0d : decide (rows ≤ 0) = false := by simp; omega
    obtain ⟨R, rfl⟩ : ∃ R : Nat, rows = (R : Int) := ⟨rows.toNat, by omega⟩
    by_cases hm0 : m ≤ 0
    · have hm0d : decide (m ≤ 0) = true := by simp; omega
      go_wp2_with fail
      have HM0 : Hid (m ≤ 0) := hm0
      clear hm0 hm0d hr0 hr0d hrm
      go_loopg [9, 10] R (fun g v i wr => ∃ k : Nat, k + g = R ∧ i = .int .i64 k ∧ OB (w.heap.size + 1) v (pre.data.toList ++ rowsT pm nb 0 k) wr ∧ Below (w.heap.size + 1) w2 wr)
      case atStart => exact ⟨0, by omega, rfl, by simpa [rowsT] using h2, Below.refl _ _⟩
      case round =>
        obtain ⟨k, hk, rfl, hO, hb⟩ := hrel
        clear h2
        obtain ⟨ao', nn, cap', rfl⟩ := hO.slice
        have hsr : w.heap.size + 1 ≤ wr.heap.size := Nat.le_trans hs2 hb.size
        have HLR : Hid ((rowsT pm nb 0 k).length ≤ 262144) := by
          have h := rowsT_len (nb := nb) (n := 0) hpm k (by omega)
          rw [Nat.mul_zero, Nat.zero_mul, Nat.add_zero] at h
          show (rowsT pm nb 0 k).length ≤ 262144
          have hk' : k ≤ 65536 := by omega
          clear hO hb hX2 hbw
          omega
        by_cases hlt : k < R
        · have hltI : decide ((k : Int) < (R : Int)) = true := by simp; omega
          obtain ⟨wo, hwo⟩ : ∃ wo, wo = wr := ⟨_, rfl⟩
          subst hwo
          go_upto_if 27 with fail
          go_cut [9] (fun v wx => OB (w.heap.size + 1) v (pre.data.toList ++ rowsT pm nb 0 k ++ (if 0 < k then [44, 32] else [])) wx ∧ Below (w.heap.size + 1) w2 wx)
          case first =>
            by_cases hk0 : 0 < k
            · have hk0d : decide ((0 : Int) < (k : Int)) = true := by simp; omega
              go_wp2_with (at_builtin; refine Lib.wpList_append_own_string _ rfl _ _ 54 9 rfl (w.heap.size + 1) 5 i0 Tryd.underlying54 Tryd.underlying9 hi hz0 hz1 hz2 _ _ _ rfl hO ⟨#[44, 32]⟩ rfl ?c3 ?c4 ?c5 ?_)
              case c3 => unfold maxLen; have hlr := HLR.out; simp only [List.length_append]; show _ + 2 ≤ _; omega
              case c4 => have hlr := HLR.out; simp only [List.length_append]; show _ + 2 ≤ _; omega
              case c5 => exact hsr
              intro v3 w3 hown3 hgrow3 _
              have h3 := OB.str hown3
              obtain ⟨ao3, n3, cap3, rfl⟩ := h3.slice
              go_wp2_with fail
              go_meet
              exact ⟨by simpa [hk0] using h3, grown_ob hb hO hgrow3 hsr⟩
            · have hk0d : decide ((0 : Int) < (k : Int)) = false := by simp; omega
              go_wp2_with fail
              go_meet
              exact ⟨by simpa [hk0] using hO, hb⟩
          case rest =>
            clear hO hb hsr
            obtain ⟨hO, hb⟩ := hcut
            obtain ⟨wa, rfl⟩ : ∃ wa, wa = wc := ⟨_, rfl⟩
            obtain ⟨ao4, n4, cap4, hv4⟩ := hO.slice
            subst hv4
            have hsr : w.heap.size + 1 ≤ wa.heap.size := Nat.le_trans hs2 hb.size
            have hsep : (if 0 < k then ([44, 32] : List UInt8) else []).length ≤ 2 := by split <;> simp
            generalize hS : (if 0 < k then ([44, 32] : List UInt8) else []) = sep at *
            have HS : Hid ((if 0 < k then ([44, 32] : List UInt8) else []) = sep) := hS
            clear hS
            go_wp2_with (at_builtin; refine Lib.wpList_append_own_string _ rfl _ _ 54 9 rfl (w.heap.size + 1) 5 i0 Tryd.underlying54 Tryd.underlying9 hi hz0 hz1 hz2 _ _ _ rfl hO ⟨#[40, 41]⟩ rfl ?c3 ?c4 ?c5 ?_)
            case c3 => unfold maxLen; have hlr := HLR.out; simp only [List.length_append]; show _ + 2 ≤ _; omega
            case c4 => have hlr := HLR.out; simp only [List.length_append]; show _ + 2 ≤ _; omega
            case c5 => exact hsr
            intro v3 w3 hown3 hgrow3 _
            have h3 := OB.str hown3
            have hb3 := grown_ob hb hO hgrow3 hsr
            obtain ⟨ao3, n3, cap3, rfl⟩ := h3.slice
            go_wp2_with fail
            go_roundg (gk - 1)
            case measure => omega
            case rel =>
              refine ⟨k + 1, by omega, by go_num, ?_, hb3⟩
              have e1 := HS.out
              subst e1
              simpa [rowsT, colsT] using h3
        · have hltI : decide ((k : Int) < (R : Int)) = false := by simp; omega
          have cv := conv_own hO
          go_wp2_with fail
          go_ret
          obtain rfl : k = R := by omega
          refine ⟨?_, hbw.trans (hb.mono (by omega))⟩
          have e : outT pm nb pre (k : Int) m = pre.data.toList ++ rowsT pm nb 0 k := by simp [outT, show m.toNat = 0 by have := HM0.out; omega]
          rw [e]
          rfl
    · have hm0d : decide (m ≤ 0) = false := by simp; omega
      obtain ⟨N, rfl⟩ : ∃ N : Nat, m = (N : Int) := ⟨m.toNat, by omega⟩
      have hN1 : 1 ≤ N := by omega
      have hRN : R * N ≤ 65536 := by simpa using hrm
      obtain ⟨T, hT⟩ : ∃ T, T = R * N := ⟨_, rfl⟩
      have hTb : T ≤ 65536 := by omega
      have hw1 : IntKind.i64.wrap ((R : Int) * (N : Int)) = (T : Int) := by
        have h2 : ((R : Int) * (N : Int)) = (T : Int) := by rw [hT]; exact (Int.natCast_mul R N).symm
        rw [h2, IntKind.wrap_i64]; omega
      have HT : Hid (T = R * N) := hT
      have hNb : N ≤ 65536 := Nat.le_trans (Nat.le_mul_of_pos_left N (by omega)) hRN
      clear hT hRN hrm
      have hNne : ¬ (N : Int) = 0 := by omega
      have hNb0 : ((N : Int) == 0) = false := by simp; omega
      go_wp2_with fail
      have HN1 : Hid (1 ≤ N) := hN1
      clear hm0 hm0d hr0 hr0d hw1 hN1
      go_loopg [9, 12] T (fun g v i wr => ∃ j : Nat, j + g = T ∧ i = .int .i64 ((j : Int) + 1) ∧ OB (w.heap.size + 1) v (pre.data.toList ++ modT pm nb N j) wr ∧ Below (w.heap.size + 1) w2 wr)
      case atStart => exact ⟨0, by omega, rfl, by simpa [modT] using h2, Below.refl _ _⟩
      case round =>
        obtain ⟨j, hj, rfl, hO, hb⟩ := hrel
        clear h2
        obtain ⟨ao', nn, cap', rfl⟩ := hO.slice
        have hsr : w.heap.size + 1 ≤ wr.heap.size := Nat.le_trans hs2 hb.size
        have HLR : Hid ((modT pm nb N j).length ≤ 68721704960) := by
          have h := modT_len (nb := nb) (n := N) hpm j (by omega)
          show (modT pm nb N j).length ≤ 68721704960
          omega
        by_cases hlt : j < T
        · have hltI : decide ((j : Int) + 1 ≤ (T : Int)) = true := by simp; omega
          obtain ⟨M1, hM1⟩ : ∃ M1, M1 = j % N := ⟨_, rfl⟩
          obtain ⟨M2, hM2⟩ : ∃ M2, M2 = (j + 1) % N := ⟨_, rfl⟩
          have hM1b : M1 ≤ 65536 := by have := Nat.mod_lt j (show 0 < N from HN1.out); omega
          have hM2b : M2 ≤ 65536 := by have := Nat.mod_lt (j + 1) (show 0 < N from HN1.out); omega
          have ht1 : Int.tmod (j : Int) (N : Int) = (M1 : Int) := by rw [hM1]; rfl
          have ht2 : Int.tmod ((j : Int) + 1) (N : Int) = (M2 : Int) := by rw [hM2]; rfl
          have HM : Hid (M1 = j % N ∧ M2 = (j + 1) % N) := ⟨hM1, hM2⟩
          clear hM1 hM2
          obtain ⟨wo, hwo⟩ : ∃ wo, wo = wr := ⟨_, rfl⟩
          subst hwo
          go_upto_if 46 with fail
          go_cut [9] (fun v wx => OB (w.heap.size + 1) v (pre.data.toList ++ modT pm nb N j ++ headT N j) wx ∧ Below (w.heap.size + 1) w2 wx)
          case first =>
            by_cases hz : M1 = 0
            · have hzd : ((M1 : Int) == 0) = true := by simp; omega
              have hzd' : decide (M1 = 0) = true := by simp; omega
              by_cases hk0 : 0 < j
              · have hk0d : decide ((1 : Int) < (j : Int) + 1) = true := by simp; omega
                go_wp2_with (at_builtin; refine Lib.wpList_append_own_string _ rfl _ _ 54 9 rfl (w.heap.size + 1) 5 i0 Tryd.underlying54 Tryd.underlying9 hi hz0 hz1 hz2 _ _ _ rfl hO ⟨#[44, 32]⟩ rfl ?c3 ?c4 ?c5 ?_)
                case c3 => unfold maxLen; have hlr := HLR.out; simp only [List.length_append]; show _ + 2 ≤ _; omega
                case c4 => have hlr := HLR.out; simp only [List.length_append]; show _ + 2 ≤ _; omega
                case c5 => exact hsr
                intro v3 w3 hown3 hgrow3 _
                have h3 := OB.str hown3
                have hb3 := grown_ob hb hO hgrow3 hsr
                obtain ⟨ao3, n3, cap3, rfl⟩ := h3.slice
                have hs3 : w.heap.size + 1 ≤ w3.heap.size := Nat.le_trans hs2 hb3.size
                have h3a : OB (w.heap.size + 1) (.slice ao3 n3 cap3) _ (w3.alloc (.cells #[.int .u8 40] 5)) := World.ownsRow.alloc h3 _
                go_wp2_with (at_builtin; refine wpList_append_own _ rfl _ _ 54 rfl (w.heap.size + 1) 5 i0 (.int .u8 0) 1 1 Tryd.underlying54 hi hz0 hz1 hz2 rfl (by decide) _ _ _ rfl h3a ⟨w3.heap.size, 0, none⟩ 1 1 (Lib.byteCells [40]) rfl rfl ?d2 ?d3 ?d4 ?d5 ?d6 ?_)
                case d2 => exact fun j u h => h
                case d3 => exact Lib.strCells_oneCell ⟨#[40]⟩
                case d4 => unfold maxLen; have hlr := HLR.out; omega
                case d5 => have hlr := HLR.out; omega
                case d6 => omega
                intro v4 w4 hown4 hgrow4 _
                have h4 := OB.bytes (m := [40]) hown4
                have hb4 := grown_ob (hb3.alloc hs3 _) h3a hgrow4 (by simp; omega)
                obtain ⟨ao4, n4, cap4, rfl⟩ := h4.slice
                go_wp2_with fail
                go_meet
                refine ⟨?_, hb4⟩
                have e : headT N j = [44, 32] ++ [40] := by unfold headT; rw [if_pos (by have := HM.out.1; omega), if_pos hk0]
                rw [e]
                simpa using h4
              · have hk0d : decide ((1 : Int) < (j : Int) + 1) = false := by simp; omega
                have h3a : OB (w.heap.size + 1) (.slice ao' nn cap') _ (wo.alloc (.cells #[.int .u8 40] 5)) := World.ownsRow.alloc hO _
                go_wp2_with (at_builtin; refine wpList_append_own _ rfl _ _ 54 rfl (w.heap.size + 1) 5 i0 (.int .u8 0) 1 1 Tryd.underlying54 hi hz0 hz1 hz2 rfl (by decide) _ _ _ rfl h3a ⟨wo.heap.size, 0, none⟩ 1 1 (Lib.byteCells [40]) rfl rfl ?d2 ?d3 ?d4 ?d5 ?d6 ?_)
                case d2 => exact newByte wo 40
                case d3 => exact Lib.strCells_oneCell ⟨#[40]⟩
                case d4 => unfold maxLen; have hlr := HLR.out; simp only [List.length_append]; omega
                case d5 => have hlr := HLR.out; simp only [List.length_append]; omega
                case d6 => simp; omega
                intro v4 w4 hown4 hgrow4 _
                have h4 := OB.bytes (m := [40]) hown4
                have hb4 := grown_ob (hb.alloc hsr _) h3a hgrow4 (by simp; omega)
                obtain ⟨ao4, n4, cap4, rfl⟩ := h4.slice
                go_wp2_with fail
                go_meet
                refine ⟨?_, hb4⟩
                have e : headT N j = [40] := by unfold headT; rw [if_pos (by have := HM.out.1; omega), if_neg hk0]; rfl
                rw [e]
                simpa using h4
            · have hzd : ((M1 : Int) == 0) = false := by simp; omega
              have hzd' : decide (M1 = 0) = false := by simp; omega
              go_wp2_with (at_builtin; refine Lib.wpList_append_own_string _ rfl _ _ 54 9 rfl (w.heap.size + 1) 5 i0 Tryd.underlying54 Tryd.underlying9 hi hz0 hz1 hz2 _ _ _ rfl hO ⟨#[44, 32]⟩ rfl ?c3 ?c4 ?c5 ?_)
              case c3 => unfold maxLen; have hlr := HLR.out; simp only [List.length_append]; show _ + 2 ≤ _; omega
              case c4 => have hlr := HLR.out; simp only [List.length_append]; show _ + 2 ≤ _; omega
              case c5 => exact hsr
              intro v3 w3 hown3 hgrow3 _
              have h3 := OB.str hown3
              have hb3 := grown_ob hb hO hgrow3 hsr
              obtain ⟨ao3, n3, cap3, rfl⟩ := h3.slice
              go_wp2_with fail
              go_meet
              refine ⟨?_, hb3⟩
              have e : headT N j = [44, 32] := by unfold headT; rw [if_neg (by have := HM.out.1; omega)]
              rw [e]
              simpa using h3
          case rest =>
            clear hO hb hsr
            obtain ⟨hO, hb⟩ := hcut
            obtain ⟨wa, rfl⟩ : ∃ wa, wa = wc := ⟨_, rfl⟩
            obtain ⟨ao4, n4, cap4, hv4⟩ := hO.slice
            subst hv4
            have hsr : w.heap.size + 1 ≤ wa.heap.size := Nat.le_trans hs2 hb.size
            have hh := headT_len N j
            obtain ⟨c0, c1, c2, c3, c4, c5, c6, c7, c8, c9, _⟩ := (hX2.below (by omega) hb).cells
            go_wp2_with ((go_at_call 38; refine (appendParam_any (w.heap.size + 1) _ _ nm pm q mp nb b1 b2 b3 b4 a n c (j + 1) wa hO hpm (by omega) (by have hlr := HLR.out; simp only [List.length_append]; omega) hsr).mono ?_))
            rintro e w5 ⟨v5, rfl, h5, hb5⟩
            have hb5' := hb.trans hb5
            obtain ⟨ao5, n5, cap5, rfl⟩ := h5.slice
            have hp := parT_len (nb := nb) (k := j + 1) hpm (by omega)
            have hs5 : w.heap.size + 1 ≤ w5.heap.size := Nat.le_trans hs2 hb5'.size
            clear c0 c1 c2 c3 c4 c5 c6 c7 c8 c9 hO hb hb5
            by_cases hz : M2 = 0
            · have hzd : ((M2 : Int) == 0) = true := by simp; omega
              have hzd' : decide (M2 = 0) = true := by simp; omega
              have h5a : OB (w.heap.size + 1) (.slice ao5 n5 cap5) _ (w5.alloc (.cells #[.int .u8 41] 5)) := World.ownsRow.alloc h5 _
              go_wp2_with (at_builtin; refine wpList_append_own _ rfl _ _ 54 rfl (w.heap.size + 1) 5 i0 (.int .u8 0) 1 1 Tryd.underlying54 hi hz0 hz1 hz2 rfl (by decide) _ _ _ rfl h5a ⟨w5.heap.size, 0, none⟩ 1 1 (Lib.byteCells [41]) rfl rfl ?d2 ?d3 ?d4 ?d5 ?d6 ?_)
              case d2 => exact newByte w5 41
              case d3 => exact Lib.strCells_oneCell ⟨#[41]⟩
              case d4 => unfold maxLen; have hlr := HLR.out; simp only [List.length_append]; omega
              case d5 => have hlr := HLR.out; simp only [List.length_append]; omega
              case d6 => simp; omega
              intro v6 w6 hown6 hgrow6 _
              have h6 := OB.bytes (m := [41]) hown6
              have hb6 := grown_ob (hb5'.alloc hs5 _) h5a hgrow6 (by simp; omega)
              obtain ⟨ao6, n6, cap6, rfl⟩ := h6.slice
              go_wp2_with fail
              go_roundg (gk - 1)
              case measure => omega
              case rel =>
                refine ⟨j + 1, by omega, by go_num, ?_, hb6⟩
                have e : tailT N j = [41] := by unfold tailT; rw [if_pos (by have := HM.out.2; omega)]
                simpa [modT, e] using h6
            · have hzd : ((M2 : Int) == 0) = false := by simp; omega
              have hzd' : decide (M2 = 0) = false := by simp; omega
              go_wp2_with fail
              go_roundg (gk - 1)
              case measure => omega
              case rel =>
                refine ⟨j + 1, by omega, by go_num, ?_, hb5'⟩
                have e : tailT N j = [] := by unfold tailT; rw [if_neg (by have := HM.out.2; omega)]
                simpa [modT, e] using h5
        · have hltI : decide ((j : Int) + 1 ≤ (T : Int)) = false := by simp; omega
          have cv := conv_own hO
          go_wp2_with fail
          go_ret
          obtain rfl : j = T := by omega
          refine ⟨?_, hbw.trans (hb.mono (by omega))⟩
          have e : outT pm nb pre (R : Int) (N : Int) = pre.data.toList ++ modT pm nb N j := by
            rw [HT.out, modT_rows pm nb N HN1.out]; simp [outT]
          rw [e]
          rfl
end Go.Proofs.Qxb6602123aDoor
