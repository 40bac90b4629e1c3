/-
  appendNum, appendParam, modelRows: what the Go texts do.
-/
import Derived.Test.Qxb6602123aDoorBox
import Derived.Test.Qxb6602123aDoorLaw5
namespace Go.Proofs.Qxb6602123aDoor
open Go.RowKit Go
theorem infoByte : (Tryd.prog.info? 5).map (fun i => (i.zero, i.size, i.bytes)) = some (some (.int .u8 0), 1, 1) := by kernel_rfl
theorem own_set {w : World} {B X i : Nat} {v u : Value} {n : Nat} {xs : List Value} (h : w.ownsRow B 5 1 v n xs) (hne : v.ownBlock ≠ some X) : (w.setCell ⟨X, i, none⟩ u).ownsRow B 5 1 v n xs :=
  h.kept (row := some X) ⟨rfl, rfl, rfl, by simp [World.setCell], fun k _ hk => Below.heap_setCell _ _ _ _ (fun e => hk (by simp [e]))⟩ (Or.inr hne)
theorem dec_small {k : Nat} (h : k < 10) : Lib.decDigits k = [UInt8.ofNat (48 + k)] := by rw [Lib.decDigits, dif_pos h]
theorem dec_big {k : Nat} (h : ¬ k < 10) : Lib.decDigits k = Lib.decDigits (k / 10) ++ [UInt8.ofNat (48 + k % 10)] := by rw [Lib.decDigits, dif_neg h]
theorem ofNat_toNat {D : Nat} (h : D ≤ 9) : (UInt8.ofNat (48 + D)).toNat = 48 + D := by
  rw [UInt8.toNat_ofNat']; omega
/-- The digits that lie in the buffer so far. -/
def Digs (F : Nat → Int) (j : Nat) (suf : List UInt8) : Prop := suf.length = j ∧ ∀ t, t < j → F (24 - j + t) = ((suf.getD t 0).toNat : Int)
theorem Digs.step {F : Nat → Int} {j D : Nat} {suf : List UInt8} (h : Digs F j suf) (hj : j ≤ 22) (hD : D ≤ 9) : Digs (fun i => if i = 23 - j then 48 + (D : Int) else F i) (j + 1) (UInt8.ofNat (48 + D) :: suf) := by
  refine ⟨by simp [h.1], fun t ht => ?_⟩
  cases t with
  | zero =>
    have e := ofNat_toNat hD
    show (if 24 - (j + 1) + 0 = 23 - j then 48 + (D : Int) else F (24 - (j + 1) + 0)) = _
    rw [if_pos (by omega)]
    simp only [List.getD_cons_zero, e]
    omega
  | succ t =>
    show (if 24 - (j + 1) + (t + 1) = 23 - j then 48 + (D : Int) else F (24 - (j + 1) + (t + 1))) = _
    rw [if_neg (by omega), List.getD_cons_succ, ← h.2 t (by omega)]
    congr 1
    omega
theorem sliceBuf (X J : Nat) (hJ : J < 24) (W : World) : (Instr.sliceAt 80 (.pointer (some ⟨X, 0, none⟩)) (some (.int .i64 (J : Int))) none none).run Tryd.prog W = .ok (.slice (some ⟨X, J, none⟩) (24 - J) (24 - J)) W := by
  have e1 : Tryd.prog.arrayLen 80 = 24 := by kernel_rfl
  have e2 : Tryd.prog.elem 80 = 5 := by kernel_rfl
  have ht : Tryd.prog.underlying 80 = some (.array (Tryd.prog.arrayLen 80) (Tryd.prog.elem 80)) := by rw [e1, e2]; exact Tryd.underlying80
  rw [run_sliceAt_array_l (P := Tryd.prog) W 80 ⟨X, 0, none⟩ ht .i64 (J : Int) (by omega) (by rw [e1]; omega), e1, e2, Tryd.sizeOf5]
  have hne : ¬ 24 = J := by omega
  simp [slicedAt, Addr.add, hne]
  exact fun e => e.symm
set_option maxHeartbeats 1600000 in
set_option maxRecDepth 10000 in
theorem appendNum_any (B : Nat) (v : Value) (n : Nat) (xs : List Value) (k : Nat) (w : World) (h : w.ownsRow B 5 1 v n xs) (hk : k ≤ 65536) (hn : n ≤ 1099511627776) (hB : B ≤ w.heap.size) :
    Calls Tryd.prog 46 #[v, .int .i64 k] w fun e w' => ∃ v', e = .returned v' ∧ w'.ownsRow B 5 1 v' (n + (Lib.itoa k).length) (xs ++ Lib.byteCells (Lib.itoa k)) ∧ Below B w w' := by
  obtain ⟨ao, n', cap, rfl⟩ : ∃ ao n' cap, v = .slice ao n' cap := by
    rcases h.2 with ⟨hv, _⟩ | ⟨g, cap, cur, hv, _⟩
    · exact ⟨_, _, _, hv⟩
    · exact ⟨_, _, _, hv⟩
  obtain ⟨i0, hi, hz0, hz1, hz2⟩ := info_parts infoByte
  have hne : (Value.slice ao n' cap).ownBlock ≠ some w.heap.size := by
    intro e
    have := (h.lt _ e).2
    omega
  rw [show Lib.itoa (k : Int) = Lib.decDigits k from Lib.itoa_nonneg k]
  have hB0 : Below B w (w.alloc (Obj.cells (Array.replicate 24 (Value.int .u8 0)) 80)) := (Below.refl _ _).alloc hB _
  have hR0 := World.rowIs_alloc w (Array.replicate 24 (Value.int .u8 0)) 80 (fun _ => Value.int .u8 0) (fun i hi => by rw [Array.size_replicate] at hi; simp [hi])
  rw [Array.size_replicate] at hR0
  have hO0 := h.alloc (Obj.cells (Array.replicate 24 (Value.int .u8 0)) 80)
  have HNE : Hid ((Value.slice ao n' cap).ownBlock ≠ some w.heap.size) := hne
  clear hne
  go_enter Tryd.func46, Tryd.ntmps46
  go_wp2
  go_loopg [1, 6] 20 (fun g kv iv wr => ∃ (j kr : Nat) (F : Nat → Int) (suf : List UInt8), g + j = 20 ∧ 1 ≤ g ∧ kv = .int .i64 kr ∧ iv = .int .i64 (24 - (j : Int)) ∧ Hid (kr < 10 ^ g) ∧ kr ≤ 65536 ∧ Hid (Lib.decDigits k = Lib.decDigits kr ++ suf) ∧ Digs F j suf ∧
    wr.rowIs w.heap.size 80 24 (fun i => .int .u8 (F i)) ∧ wr.ownsRow B 5 1 (.slice ao n' cap) n xs ∧ Below B w wr)
  case atStart => exact ⟨0, k, fun _ => 0, [], by omega, by omega, rfl, rfl, show k < 10 ^ 20 by omega, hk, by simp [Hid], ⟨rfl, fun t ht => absurd ht (by omega)⟩, hR0, hO0, hB0⟩
  case round =>
    obtain ⟨j, kr, F, suf, hgj, hg, rfl, rfl, HP, hkr, HD, hdg, hrow, hown, hbel⟩ := hrel
    clear hR0 hB0 hO0
    obtain ⟨D, hD⟩ : ∃ D, D = kr % 10 := ⟨_, rfl⟩
    obtain ⟨Q, hQ⟩ : ∃ Q, Q = kr / 10 := ⟨_, rfl⟩
    have hD9 : D ≤ 9 := by omega
    have hQb : Q ≤ 65536 := by omega
    have hm : Int.tmod (kr : Int) 10 = (D : Int) := by rw [hD]; rfl
    have hq : Int.tdiv (kr : Int) 10 = (Q : Int) := by rw [hQ]; rfl
    have HQD : Hid (D = kr % 10 ∧ Q = kr / 10) := ⟨hD, hQ⟩
    clear hD hQ
    obtain ⟨J, hJ⟩ : ∃ J : Nat, J = 23 - j := ⟨_, rfl⟩
    have hJI : (24 - (j : Int)) - 1 = (J : Int) := by omega
    have hJ24 : J < 24 := by omega
    have HJ : Hid (J = 23 - j) := hJ
    clear hJ
    have f1 := hrow.frozen J
    have f2 := hrow.cell (i := J) hJ24
    by_cases hQ0 : Q = 0
    · have hQd : decide ((Q : Int) ≤ 0) = true := by simp; omega
      have hQz : decide (Q = 0) = true := by simp; omega
      have sl := sliceBuf w.heap.size J hJ24
      have hd' := hdg.step (D := D) (by omega) hD9
      have hrow' : (wr.setCell ⟨w.heap.size, J, none⟩ (.int .u8 (48 + (D : Int)))).rowIs w.heap.size 80 24 (fun i => .int .u8 (if i = 23 - j then 48 + (D : Int) else F i)) := by
        refine (hrow.set J _).congr (fun i hi => ?_)
        rw [HJ.out]
        by_cases e : i = 23 - j
        · simp [e]
        · simp [e]
      have hown' := own_set (X := w.heap.size) (i := J) (u := .int .u8 (48 + (D : Int))) hown HNE.out
      have hbel' : Below B w (wr.setCell ⟨w.heap.size, J, none⟩ (.int .u8 (48 + (D : Int)))) := hbel.setCell hB _
      have hdec : Lib.decDigits k = UInt8.ofNat (48 + D) :: suf := by
        rw [HD.out, dec_small (k := kr) (by have := HQD.out.2; omega)]
        have : D = kr := by have := HQD.out; omega
        rw [this]; rfl
      have HDEC : Hid (Lib.decDigits k = UInt8.ofNat (48 + D) :: suf) := hdec
      have Hd : Hid (Digs (fun i => if i = 23 - j then 48 + (D : Int) else F i) (j + 1) (UInt8.ofNat (48 + D) :: suf)) := hd'
      have HR : Hid ((wr.setCell ⟨w.heap.size, J, none⟩ (.int .u8 (48 + (D : Int)))).rowIs w.heap.size 80 24 (fun i => .int .u8 (if i = 23 - j then 48 + (D : Int) else F i))) := hrow'
      have hsz : w.heap.size ≤ wr.heap.size := hbel.size
      clear hd' hrow' hdec hrow hown hbel
      generalize UInt8.ofNat (48 + D) :: suf = ds at *
      go_wp2_with (at_builtin; refine wpList_append_own _ rfl _ _ 54 rfl B 5 i0 (.int .u8 0) 1 1 Tryd.underlying54 hi hz0 hz1 hz2 rfl (by decide) _ n xs rfl hown' ⟨w.heap.size, J, none⟩ (24 - J) (24 - J) (Lib.byteCells ds) rfl ?c1 ?c2 ?c3 ?c4 ?c5 ?c6 ?_)
      case c1 => rw [length_byteCells, Hd.out.1]; have := HJ.out; omega
      case c2 =>
        intro t u hu
        have hlt : t < (Lib.byteCells ds).length := by
          rcases Nat.lt_or_ge t (Lib.byteCells ds).length with h' | h'
          · exact h'
          · rw [List.getElem?_eq_none h'] at hu; cases hu
        have hj := Hd.out.1
        have hJe := HJ.out
        rw [length_byteCells] at hlt
        try simp only [Lib.add_plain]
        rw [World.rowIs.cell HR.out (i := J + t) (by omega)]
        have h2 := Hd.out.2 t (by omega)
        rw [show 24 - (j + 1) + t = J + t by omega] at h2
        rw [← hu]
        simp only [h2, Lib.byteCells, List.getElem?_map, List.getElem?_eq_getElem hlt, Option.map_some]
        simp [List.getD, hlt]
      case c3 => exact Lib.strCells_oneCell ⟨ds.toArray⟩
      case c4 => unfold maxLen; omega
      case c5 => omega
      case c6 => first | exact Nat.le_trans hB hsz | exact Nat.le_trans hB hbel'.size
      intro v' w2 hown2 hgrow _
      obtain ⟨ao2, n2, cap2, rfl⟩ : ∃ ao n' cap, v' = .slice ao n' cap := by
        rcases hown2.2 with ⟨hv, _⟩ | ⟨g, cap, cur, hv, _⟩
        · exact ⟨_, _, _, hv⟩
        · exact ⟨_, _, _, hv⟩
      go_wp2
      go_ret
      refine ⟨_, rfl, ?_, hbel'.grown hgrow (Nat.le_trans hB hbel'.size) (fun k hk => (hown'.lt k hk).1)⟩
      have e : ds.length = 24 - J := by have := Hd.out.1; have := HJ.out; omega
      rw [HDEC.out, e]; exact hown2
    · have hQd : decide ((Q : Int) ≤ 0) = false := by simp; omega
      have hQz : decide (Q = 0) = false := by simp; omega
      go_wp2
      go_roundg (gk - 1)
      case measure => omega
      case rel =>
        have hJe := HJ.out
        have hp : kr < 10 ^ gk := HP.out
        have hpow : 10 ^ gk = 10 * 10 ^ (gk - 1) := by
          obtain ⟨g', rfl⟩ : ∃ g', gk = g' + 1 := ⟨gk - 1, by omega⟩
          rw [Nat.add_sub_cancel, Nat.pow_succ, Nat.mul_comm]
        have hQlt : Q < 10 ^ (gk - 1) := by have := HQD.out.2; omega
        have hg1 : 1 ≤ gk - 1 := by
          rcases Nat.eq_zero_or_pos (gk - 1) with e | e
          · rw [e] at hQlt; omega
          · exact e
        refine ⟨j + 1, Q, _, UInt8.ofNat (48 + D) :: suf, by omega, hg1, rfl, by rw [hJe]; congr 1; omega, hQlt, hQb, ?_, hdg.step (by omega) hD9, ?_, own_set hown HNE.out, hbel.setCell hB _⟩
        · show Lib.decDigits k = _
          rw [HD.out, dec_big (k := kr) (by have := HQD.out.2; omega), ← HQD.out.1, ← HQD.out.2]
          simp
        · refine (hrow.set J _).congr (fun i hi => ?_)
          rw [hJe]
          by_cases e : i = 23 - j
          · simp [e]
          · simp [e]
/-- v is a []byte of the call's own (blocks from B on) that holds l. -/
def OB (B : Nat) (v : Value) (l : List UInt8) (w : World) : Prop := w.ownsRow B 5 1 v l.length (Lib.byteCells l)
theorem OB.slice {B : Nat} {v : Value} {l : List UInt8} {w : World} (h : OB B v l w) : ∃ ao n' cap, v = .slice ao n' cap := by
  rcases h.2 with ⟨hv, _⟩ | ⟨g, cap, cur, hv, _⟩
  · exact ⟨_, _, _, hv⟩
  · exact ⟨_, _, _, hv⟩
theorem OB.of {B n : Nat} {v : Value} {l : List UInt8} {w : World} (h : w.ownsRow B 5 1 v n (Lib.byteCells l)) : OB B v l w := by
  have e := h.1
  rw [length_byteCells, Nat.mul_one] at e
  unfold OB; rw [e]; exact h
theorem OB.str {B n : Nat} {v : Value} {l : List UInt8} {s : ByteArray} {w : World} (h : w.ownsRow B 5 1 v n (Lib.byteCells l ++ Lib.strCells s)) : OB B v (l ++ s.data.toList) w := by
  rw [strCells_eq, byteCells_append] at h
  exact OB.of h
theorem OB.bytes {B n : Nat} {v : Value} {l m : List UInt8} {w : World} (h : w.ownsRow B 5 1 v n (Lib.byteCells l ++ Lib.byteCells m)) : OB B v (l ++ m) w := by
  rw [byteCells_append] at h
  exact OB.of h
theorem OB.below {B : Nat} {v : Value} {l : List UInt8} {w w' : World} (h : OB B v l w) (hb : Below w.heap.size w w') : OB B v l w' := by
  refine World.ownsRow.kept h (row := none) ⟨hb.os, hb.tape, hb.output, hb.size, fun k hk _ => hb.block k hk⟩ ?_
  cases hv : v.ownBlock with
  | none => exact .inl rfl
  | some x => exact .inr (by simp)
theorem conv_own {B : Nat} {v : Value} {l : List UInt8} {w : World} (h : OB B v l w) : (convert 54 9 v).run Tryd.prog w = .ok (.string ⟨l.toArray⟩) w := by
  rcases h.2 with ⟨hv, h0⟩ | ⟨g, cap, cur, hv, _⟩
  · obtain rfl : l = [] := List.eq_nil_of_length_eq_zero h0
    rw [hv]
    exact run_convert_bytes_nil w 54 5 Tryd.underlying54 Tryd.underlying5 0 0 9 Tryd.underlying9
  · have hc := World.ownsRow.cells h (g := g) (by rw [hv]; rfl)
    rw [hv]
    refine run_convert_bytes_back w 54 9 5 ⟨g, 0, none⟩ cap l Tryd.underlying54 Tryd.underlying5 Tryd.underlying9 (fun j hj => hc j _ ?_)
    simp [Lib.byteCells, List.getElem?_eq_getElem hj]
set_option maxHeartbeats 1600000 in
theorem appendParam_any (B : Nat) (v : Value) (l : List UInt8) (nm pm : ByteArray) (q mp : Int) (nb b1 b2 b3 b4 : Bool) (a : Option Addr) (n c : Nat) (k : Nat) (w : World) (h : OB B v l w) (hpm : pm.size ≤ 1048576) (hk : k ≤ 65536) (hn : l.length ≤ 549755813888) (hB : B ≤ w.heap.size) :
    Calls Tryd.prog 38 #[v, .agg #[.string nm, .int .u8 q, .string pm, .bool nb, .int .i64 mp, .bool b1, .bool b2, .bool b3, .bool b4, .slice a n c], .int .i64 k] w fun e w' => ∃ v', e = .returned v' ∧ OB B v' (l ++ parT pm nb k) w' ∧ Below B w w' := by
  obtain ⟨ao, n', cap, rfl⟩ := h.slice
  obtain ⟨i0, hi, hz0, hz1, hz2⟩ := info_parts infoByte
  have hne : (Value.slice ao n' cap).ownBlock ≠ some w.heap.size := by
    intro e
    have := (World.ownsRow.lt h _ e).2
    omega
  have hBel : Below B w (w.alloc (.cells #[.string nm, .int .u8 q, .string pm, .bool nb, .int .i64 mp, .bool b1, .bool b2, .bool b3, .bool b4, .slice a n c] 24)) := (Below.refl _ _).alloc hB _
  have hX := Box.new w nm pm q mp nb b1 b2 b3 b4 a n c
  have h1 : OB B (.slice ao n' cap) l (w.alloc (.cells #[.string nm, .int .u8 q, .string pm, .bool nb, .int .i64 mp, .bool b1, .bool b2, .bool b3, .bool b4, .slice a n c] 24)) := World.ownsRow.alloc h _
  go_enter Tryd.func38, Tryd.ntmps38
  go_wp2_with (at_builtin; refine Lib.wpList_append_own_string _ rfl _ _ 54 9 rfl B 5 i0 Tryd.underlying54 Tryd.underlying9 hi hz0 hz1 hz2 _ _ _ rfl h1 pm rfl ?c3 ?c4 ?c5 ?_)
  case c3 => unfold maxLen; omega
  case c4 => omega
  case c5 => exact Nat.le_trans hB (by simp)
  intro v' w2 hown' hgrow _
  have hX2 : Box w2 w.heap.size nm pm q mp nb b1 b2 b3 b4 a n c := by
    unfold Box; rw [hgrow.block _ hX.lt (fun e => hne e.symm)]; exact hX
  have hb2 : Below B w w2 := hBel.grown hgrow (Nat.le_trans hB (by simp)) (fun k hk => (World.ownsRow.lt h1 k hk).1)
  have h2 := OB.str hown'
  obtain ⟨ao2, n2, cap2, rfl⟩ := h2.slice
  obtain ⟨_, _, _, c3, _, _, _, _, _, _, _⟩ := hX2.cells
  clear hX h1 hX2 hown' hgrow
  have e1 : pm.data.toList.length = pm.size := by show _ = pm.data.size; simp
  cases nb with
  | false =>
    go_wp2_with fail
    go_ret
    exact ⟨_, rfl, by simpa [parT] using h2, hb2⟩
  | true =>
    go_wp2_with fail
    refine (appendNum_any B _ _ _ k w2 h2 hk (by rw [List.length_append, e1]; omega) (Nat.le_trans hB hb2.size)).mono ?_
    rintro e w3 ⟨v3, rfl, h3, hb3⟩
    have h3' := OB.bytes h3
    obtain ⟨ao3, n3, cap3, rfl⟩ := h3'.slice
    go_wp2_with fail
    go_ret
    exact ⟨_, rfl, by simpa [parT] using h3', hb2.trans hb3⟩
end Go.Proofs.Qxb6602123aDoor
