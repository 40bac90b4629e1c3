/-
  writeParam, writeRows, ZZWriteRows: what the Go texts do.
-/
import Derived.Test.Qxb6602123aDoorBase
import Derived.Lib.ItoaLen
import Derived.Deep.LoopGhost
import Derived.Deep.RegionHeld3
import Derived.Deep.DeepCutAuto
import Derived.BigQuiet
import Derived.Deep.QuietTactic
import Derived.WalkSmall
namespace Go.Proofs.Qxb6602123aDoor
open Go.RowKit Go
theorem lenIt {l : List UInt8} {pm : ByteArray} {it : List UInt8} (h : l.length + pm.size + 21 ≤ 140737488355328) (hs : it.length ≤ 21) : (l ++ pm.data.toList).length + (ByteArray.mk it.toArray).size ≤ 140737488355328 := by
  have h1 : (ByteArray.mk it.toArray).size = it.length := by show it.toArray.size = _; simp
  have h2 : pm.data.toList.length = pm.size := by show _ = pm.data.size; simp
  rw [List.length_append, h1, h2]; omega
set_option maxHeartbeats 1600000 in
theorem writeParam_any (B b d : Nat) (l : List UInt8) (pm : ByteArray) (nb : Bool) (k : Nat) (w : World) (hD : IsDia w B d pm nb) (ht : Tab w B) (h : BA B b l w) (hk : k ≤ 9223372036854775807) (hlen : l.length + pm.size + 21 ≤ 140737488355328) (hBw : B ≤ w.heap.size) :
    Calls Tryd.prog 44 #[.pointer (some ⟨d, 0, none⟩), .pointer (some ⟨b, 0, none⟩), .int .i64 k] w fun e w' => e = .returned (.tuple #[]) ∧ BA B b (l ++ parT pm nb k) w' ∧ Below B w w' := by
  have hc2 := hD.2.1
  go_enter Tryd.func44, Tryd.ntmps44
  go_wp2_with fail
  refine (write_any B b l pm w h (by omega) hBw).mono ?_
  rintro e w1 ⟨rfl, h1, hb1⟩
  have hD1 := hD.below hb1
  have hc3 := hD1.2.2
  have ht1 := ht.on hb1
  clear hc2
  cases nb with
  | false =>
    go_wp2_with fail
    go_end0
    exact ⟨rfl, by simpa [parT] using h1, hb1⟩
  | true =>
    go_wp2_with fail
    refine (Tryd.strconv_Itoa (k : Int) (by omega) (by omega) w1 ht1.here).mono ?_
    rintro e w2 ⟨rfl, kk, os, hw2⟩
    have hB1 : B ≤ w1.heap.size := Nat.le_trans hBw hb1.size
    have hb2 : Below w1.heap.size w1 w2 := by rw [hw2]; exact Lib.below_grow _ _ (Nat.le_refl _) _ _
    have hs := Lib.itoa_length_le (k : Int) (by omega) (by omega)
    clear hw2
    go_wp2_with fail
    refine (write_any B b _ _ w2 (h1.below hb2) (lenIt hlen hs) (Nat.le_trans hB1 hb2.size)).mono ?_
    rintro e w3 ⟨rfl, h3, hb3⟩
    go_wp2_with fail
    go_end0
    exact ⟨rfl, by simpa [parT] using h3, (hb1.trans (hb2.mono hB1)).trans hb3⟩
theorem parT_len {pm : ByteArray} {nb : Bool} {k : Nat} (hpm : pm.size ≤ 1048576) (hk : k ≤ 9223372036854775807) : (parT pm nb k).length ≤ 1048597 := by
  have h2 : pm.data.toList.length = pm.size := by show _ = pm.data.size; simp
  have hs := Lib.itoa_length_le (k : Int) (by omega) (by omega)
  unfold parT
  rw [List.length_append, h2]
  cases nb
  · simp; omega
  · simp only [if_true]; omega
theorem colsT_len {pm : ByteArray} {nb : Bool} {n r : Nat} (hpm : pm.size ≤ 1048576) (hr : r * n ≤ 65536) : ∀ i, i ≤ n + 1 → n ≤ 65536 → (colsT pm nb n r i).length ≤ i * 1048600
  | 0, _, _ => by simp [colsT]
  | i + 1, hi, hn => by
    have h1 := colsT_len (nb := nb) hpm hr i (by omega) hn
    have h2 := parT_len (nb := nb) (k := r * n + i + 1) hpm (by omega)
    simp only [colsT, List.length_append]
    have h3 : (if 0 < i then ([44, 32] : List UInt8) else []).length ≤ 2 := by split <;> simp
    omega
theorem rowsT_len {pm : ByteArray} {nb : Bool} {n : Nat} (hpm : pm.size ≤ 1048576) : ∀ r, r * n ≤ 65536 → (rowsT pm nb n r).length ≤ r * 4 + (r * n) * 1048600
  | 0, _ => by simp [rowsT]
  | r + 1, hr => by
    rw [Nat.succ_mul] at hr
    have h1 := rowsT_len (nb := nb) (n := n) hpm r (by omega)
    have h2 := colsT_len (nb := nb) (n := n) (r := r) hpm (by omega) n (by omega) (by omega)
    simp only [rowsT, List.length_append, List.length_cons, List.length_nil]
    have h3 : (if 0 < r then ([44, 32] : List UInt8) else []).length ≤ 2 := by split <;> simp
    have hm : (r + 1) * n = r * n + n := Nat.succ_mul r n
    rw [hm]
    omega
set_option maxHeartbeats 4000000 in
set_option maxRecDepth 100000 in
theorem writeRows_any (B b d : Nat) (l : List UInt8) (pm : ByteArray) (nb : Bool) (rows n : Int) (R N : Nat) (w : World) (hD : IsDia w B d pm nb) (ht : Tab w B) (h : BA B b l w) (hBw : B ≤ w.heap.size)
    (hR : R = rows.toNat) (hN : N = n.toNat) (hl : l.length ≤ 1048576) (hpm : pm.size ≤ 1048576) (hRb : rows ≤ 65536) (hRN : R * N ≤ 65536) :
    Calls Tryd.prog 37 #[.pointer (some ⟨d, 0, none⟩), .pointer (some ⟨b, 0, none⟩), .int .i64 rows, .int .i64 n] w fun e w' => e = .returned (.tuple #[]) ∧ BA B b (l ++ rowsT pm nb N R) w' ∧ Below B w w' := by
  have HR : Hid (R = rows.toNat) := hR
  have HN : Hid (N = n.toNat) := hN
  clear hR hN
  go_enter Tryd.func37, Tryd.ntmps37
  go_wp2
  go_loopg [11] R (fun g i wr => ∃ k : Nat, k + g = R ∧ i = .int .i64 k ∧ BA B b (l ++ rowsT pm nb N k) wr ∧ Below B w wr)
  case atStart => exact ⟨0, by omega, rfl, by simpa [rowsT] using h, Below.refl _ _⟩
  case round =>
    obtain ⟨k, hk, rfl, hBA, hbel⟩ := hrel
    by_cases hlt : k < R
    · have hltI : (k : Int) < rows := by have := HR.out; omega
      have hkN : k * N + N ≤ 65536 := by
        have h1 : (k + 1) * N ≤ R * N := Nat.mul_le_mul_right N hlt
        rw [Nat.succ_mul] at h1
        omega
      have hNb : N ≤ 65536 := by omega
      have hrl := rowsT_len (nb := nb) (n := N) hpm k (by omega)
      have hkb : k ≤ 65536 := by omega
      have hB1 : B ≤ wr.heap.size := Nat.le_trans hBw hbel.size
      obtain ⟨wo, hwo⟩ : ∃ wo, wo = wr := ⟨_, rfl⟩
      subst hwo
      go_upto_if 15 with fail
      go_cut [] (fun wx => BA B b (l ++ rowsT pm nb N k ++ (if 0 < k then [44, 32] else [])) wx ∧ Below B w wx)
      case first =>
        by_cases h0 : 0 < k
        · have h0d : decide ((0 : Int) < (k : Int)) = true := by simp; omega
          go_wp2_with fail
          refine (write_any B b _ _ wo hBA (by simp only [List.length_append]; show _ + 2 ≤ _; omega) hB1).mono ?_
          rintro e w1 ⟨rfl, h1, hb1⟩
          go_wp2_with fail
          go_meet
          exact ⟨by simpa [h0] using h1, hbel.trans hb1⟩
        · have h0d : decide ((0 : Int) < (k : Int)) = false := by simp; omega
          go_wp2_with fail
          go_meet
          exact ⟨by simpa [h0] using hBA, hbel⟩
      case rest =>
        clear hBA hbel hB1
        obtain ⟨hBA, hbel⟩ := hcut
        obtain ⟨wa, rfl⟩ : ∃ wa, wa = wc := ⟨_, rfl⟩
        have hB1 : B ≤ wa.heap.size := Nat.le_trans hBw hbel.size
        have hsep : (if 0 < k then ([44, 32] : List UInt8) else []).length ≤ 2 := by split <;> simp
        generalize hS : (if 0 < k then ([44, 32] : List UInt8) else []) = sep at *
        have HS : Hid ((if 0 < k then ([44, 32] : List UInt8) else []) = sep) := hS
        clear hS
        go_wp2_with fail
        refine (write_any B b _ _ wa hBA (by simp only [List.length_append]; show _ + 1 ≤ _; omega) hB1).mono ?_
        rintro e w1 ⟨rfl, h1, hb1⟩
        have hbe1 := hbel.trans hb1
        clear hBA hbel hB1 hb1
        go_wp2_with fail
        go_loopg [21] N (fun g i wi => ∃ j : Nat, j + g = N ∧ i = .int .i64 j ∧ BA B b (l ++ rowsT pm nb N k ++ sep ++ [40] ++ colsT pm nb N k j) wi ∧ Below B w wi)
        case atStart => exact ⟨0, by omega, rfl, by simpa [colsT] using h1, hbe1⟩
        case round =>
          obtain ⟨j, hj, rfl, hBI, hbI⟩ := hrel
          clear h1 hbe1
          have hBj : B ≤ wr.heap.size := Nat.le_trans hBw hbI.size
          have hcl := colsT_len (nb := nb) (n := N) (r := k) hpm (by omega) j (by omega) hNb
          by_cases hltj : j < N
          · obtain rfl : n = (N : Int) := by have := HN.out; omega
            have hltjI : (j : Int) < (N : Int) := by omega
            obtain ⟨M, hM⟩ : ∃ M, M = k * N := ⟨_, rfl⟩
            have hMb : M + j + 1 ≤ 131073 := by omega
            have hw1 : IntKind.i64.wrap ((k : Int) * (N : Int)) = (M : Int) := by
              have h2 : ((k : Int) * (N : Int)) = (M : Int) := by rw [hM]; exact (Int.natCast_mul k N).symm
              rw [h2, IntKind.wrap_i64]; omega
            have HM : Hid (M = k * N) := hM
            clear hM
            obtain ⟨wp, hwp⟩ : ∃ wp, wp = wr := ⟨_, rfl⟩
            subst hwp
            go_upto_if 25 with fail
            go_cut [] (fun wx => BA B b (l ++ rowsT pm nb N k ++ sep ++ [40] ++ colsT pm nb N k j ++ (if 0 < j then [44, 32] else [])) wx ∧ Below B w wx)
            case first =>
              by_cases h0 : 0 < j
              · have h0d : decide ((0 : Int) < (j : Int)) = true := by simp; omega
                go_wp2_with fail
                refine (write_any B b _ _ wp hBI (by simp only [List.length_append, List.length_cons, List.length_nil]; show _ + 2 ≤ _; omega) hBj).mono ?_
                rintro e w2 ⟨rfl, h2, hb2⟩
                go_wp2_with fail
                go_meet
                exact ⟨by simpa [h0] using h2, hbI.trans hb2⟩
              · have h0d : decide ((0 : Int) < (j : Int)) = false := by simp; omega
                go_wp2_with fail
                go_meet
                exact ⟨by simpa [h0] using hBI, hbI⟩
            case rest =>
              clear hBI hbI hBj
              obtain ⟨hBI, hbI⟩ := hcut
              obtain ⟨wq, rfl⟩ : ∃ wq, wq = wc := ⟨_, rfl⟩
              have hBj : B ≤ wq.heap.size := Nat.le_trans hBw hbI.size
              have hsepj : (if 0 < j then ([44, 32] : List UInt8) else []).length ≤ 2 := by split <;> simp
              generalize hS : (if 0 < j then ([44, 32] : List UInt8) else []) = sepj at *
              have HSj : Hid ((if 0 < j then ([44, 32] : List UInt8) else []) = sepj) := hS
              clear hS
              go_wp2_with ((go_at_call 44; refine (writeParam_any B b d _ pm nb (M + j + 1) wq (hD.below hbI) (ht.on hbI) hBI (by omega) (by simp only [List.length_append, List.length_cons, List.length_nil]; omega) hBj).mono ?_))
              rintro e w3 ⟨rfl, h3, hb3⟩
              go_wp2_with fail
              go_roundg (gk - 1)
              case measure => omega
              case rel =>
                refine ⟨j + 1, by omega, by go_num, ?_, hbI.trans hb3⟩
                have e1 := HSj.out
                have e2 := HM.out
                subst e1 e2
                simpa [colsT] using h3
          · have hgej : ¬ (j : Int) < n := by have := HN.out; omega
            obtain rfl : j = N := by omega
            go_wp2_with fail
            refine (write_any B b _ _ wr hBI (by simp only [List.length_append, List.length_cons, List.length_nil]; show _ + 1 ≤ _; omega) hBj).mono ?_
            rintro e w4 ⟨rfl, h4, hb4⟩
            go_wp2_with fail
            go_roundg (R - k - 1)
            case measure => omega
            case rel =>
              refine ⟨k + 1, by omega, by go_num, ?_, hbI.trans hb4⟩
              have e1 := HS.out
              subst e1
              simpa [rowsT] using h4
    · have hge : ¬ (k : Int) < rows := by have := HR.out; omega
      go_wp2
      go_end0
      obtain rfl : k = R := by omega
      exact ⟨rfl, hBA, hbel⟩
/-- The text of writeRows behind pre. -/
def outT (pm : ByteArray) (nb : Bool) (pre : ByteArray) (rows n : Int) : List UInt8 := pre.data.toList ++ rowsT pm nb n.toNat rows.toNat
set_option maxHeartbeats 4000000 in
theorem zzRows_any (d : Nat) (pm : ByteArray) (nb : Bool) (pre : ByteArray) (rows n : Int) (w : World) (hD : IsDia w w.heap.size d pm nb) (ht : Lib.TabIs Tryd.prog w "internal/strconv.uint64pow10" .u64 Lib.pow10Tab)
    (hl : pre.size ≤ 1048576) (hpm : pm.size ≤ 1048576) (hRb : rows ≤ 65536) (hRN : rows.toNat * n.toNat ≤ 65536) :
    Calls Tryd.prog 22 #[.pointer (some ⟨d, 0, none⟩), .string pre, .int .i64 rows, .int .i64 n] w fun e w' => e = .returned (.string ⟨(outT pm nb pre rows n).toArray⟩) ∧ Below w.heap.size w w' := by
  have hps : pre.data.toList.length = pre.size := by show _ = pre.data.size; simp
  have ht' := Lib.tabBelow_of_tabIs ht
  go_enter Tryd.func22, Tryd.ntmps22
  go_wp2_with fail
  refine (Tryd.Builder_WriteString w.heap.size w.heap.size [] pre _ (Lib.fresh_isBuilder 56 5 w) (by simp; omega) (by simp)).mono ?_
  rintro e w1 ⟨rfl, h1, hb1⟩
  have hb01 : Below w.heap.size w w1 := ((Below.refl _ _).alloc (Nat.le_refl _) _).trans hb1
  have hBA : BA w.heap.size w.heap.size pre.data.toList w1 := by simpa [BA, strCells_eq] using h1
  clear h1 hb1
  go_wp2_with fail
  refine (writeRows_any w.heap.size w.heap.size d _ pm nb rows n rows.toNat n.toNat w1 (hD.below hb01) (ht'.on hb01) hBA hb01.size rfl rfl (by omega) hpm hRb hRN).mono ?_
  rintro e w2 ⟨rfl, h2, hb2⟩
  go_wp2_with fail
  refine (Tryd.Builder_String_any w.heap.size w.heap.size _ w2 (.inr h2) (Nat.le_trans hb01.size hb2.size)).mono ?_
  rintro e w3 ⟨rfl, hb3⟩
  go_wp2_with fail
  go_ret
  exact ⟨rfl, (hb01.trans hb2).trans hb3⟩
end Go.Proofs.Qxb6602123aDoor
