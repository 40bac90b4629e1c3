/-
  The guards of the laws: addLen, dialectBytes, tooMany, bigRows, zzBytes; cloneStrings; mkDialect: what the Go texts do.
-/
import Derived.Test.Qxb6602123aDoorBase
import Derived.Deep.LoopGhost
import Derived.Deep.RegionHeld3
import Derived.Deep.DeepCutAuto
import Derived.BigQuiet
import Derived.Deep.QuietTactic
import Derived.WalkSmall
namespace Go.Proofs.Qxb6602123aDoor
open Go.RowKit Go
theorem cell_new (w : World) (cs : Array Value) (t : TypeId) (i : Nat) : (w.alloc (.cells cs t)).cell? ⟨w.heap.size, i, none⟩ = cs[i]? :=
  Lib.cell_of_heap (T := t) (fr := (0, 0)) (by show (w.heap.push _)[w.heap.size]? = _; simp) i
theorem Tryd.info9 : (Tryd.prog.info? 9).map (fun i => (i.zero, i.size, i.bytes)) = some (some (.string ⟨#[]⟩), 1, 16) := by kernel_rfl
def AddPost (t m : Int) (w : World) (e : Ending) (w' : World) : Prop := ∃ r : Int, e = .returned (.int .i64 r) ∧ w' = w ∧ 0 ≤ r ∧ r ≤ 2097153 ∧ (r ≤ 1048576 → r = t + m)
set_option maxHeartbeats 800000 in
theorem addLen_any (t m : Int) (w : World) (ht : 0 ≤ t) (ht2 : t ≤ 2097153) (hm : 0 ≤ m) (hm2 : m ≤ 9223372036854775807) :
    Calls Tryd.prog 26 #[.int .i64 t, .int .i64 m] w (AddPost t m w) := by
  have h0 : decide (m < 0) = false := by simp; omega
  by_cases h1 : m ≤ 1048576
  · have h1d : decide (1048576 < m) = false := by simp; omega
    by_cases h2 : t ≤ 1048576
    · have h2d : decide (1048576 < t) = false := by simp; omega
      go_enter Tryd.func26, Tryd.ntmps26
      go_wp2
      go_ret
      exact ⟨t + m, by go_num, rfl, by omega, by omega, fun _ => rfl⟩
    · have h2d : decide (1048576 < t) = true := by simp; omega
      go_enter Tryd.func26, Tryd.ntmps26
      go_wp2
      go_ret
      exact ⟨1048577, rfl, rfl, by omega, by omega, fun h => by omega⟩
  · have h1d : decide (1048576 < m) = true := by simp; omega
    go_enter Tryd.func26, Tryd.ntmps26
    go_wp2
    go_ret
    exact ⟨1048577, rfl, rfl, by omega, by omega, fun h => by omega⟩
def BoolPost (w : World) (e : Ending) (w' : World) : Prop := ∃ r : Bool, e = .returned (.bool r) ∧ w' = w
set_option maxHeartbeats 800000 in
theorem tooMany_any (t m : Int) (w : World) (ht : 0 ≤ t) (ht2 : t ≤ 65536) :
    Calls Tryd.prog 35 #[.int .i64 t, .int .i64 m] w (BoolPost w) := by
  by_cases h1 : t = 0
  · subst h1
    go_enter Tryd.func35, Tryd.ntmps35
    go_wp2
    go_ret
    exact ⟨_, rfl, rfl⟩
  · have h0 : decide (0 < t) = true := by simp; omega
    have h0' : 0 < t := by omega
    have h0'' : ¬ t = 0 := by omega
    have h0b : (t == 0) = false := by simp; omega
    go_enter Tryd.func35, Tryd.ntmps35
    go_wp2
    go_ret
    exact ⟨_, rfl, rfl⟩
def Zz25Post (nm pm : ByteArray) (n : Nat) (S : Nat → ByteArray) (w : World) (e : Ending) (w' : World) : Prop := ∃ r : Bool, e = .returned (.bool r) ∧ Below w.heap.size w w' ∧ (r = true → nm.size ≤ 1048576 ∧ pm.size ≤ 1048576 ∧ n ≤ 1048576 ∧ (∀ i, i < n → (S i).size ≤ 1048576))
set_option maxHeartbeats 4000000 in
set_option maxRecDepth 100000 in
theorem zz25_any (nm pm : ByteArray) (q mp : Int) (nb b1 b2 b3 b4 : Bool) (a : Option Addr) (n c : Nat) (S : Nat → ByteArray) (x y z : Int) (w : World) (hS : Strs w a n S) (hnm : nm.size ≤ maxLen) (hpm : pm.size ≤ maxLen) (hn : n ≤ maxLen) :
    Calls Tryd.prog 25 #[.agg #[.string nm, .int .u8 q, .string pm, .bool nb, .int .i64 mp, .bool b1, .bool b2, .bool b3, .bool b4, .slice a n c], .int .i64 x, .int .i64 y, .int .i64 z] w (Zz25Post nm pm n S w) := by
  unfold maxLen at hnm hpm hn
  have hBel : Below w.heap.size w (w.alloc (.cells #[.string nm, .int .u8 q, .string pm, .bool nb, .int .i64 mp, .bool b1, .bool b2, .bool b3, .bool b4, .slice a n c] 24)) := (Below.refl _ _).alloc (Nat.le_refl _) _
  have hS1 := hS.below hBel
  go_enter Tryd.func25, Tryd.ntmps25
  go_wp2
  iterate 5 (· go_ret; exact ⟨false, rfl, hBel, fun h => by simp at h⟩)
  have k0 : (nm.size : Int) ≤ 1048576 := by assumption
  have k1 : (pm.size : Int) ≤ 1048576 := by assumption
  have k2 : (nm.size : Int) + pm.size ≤ 1048576 := by assumption
  have k3 : (n : Int) ≤ 1048576 := by assumption
  have k4 : (nm.size : Int) + pm.size + n ≤ 1048576 := by assumption
  have e0 : decide (1048576 < (nm.size : Int)) = false := by simp; omega
  have e1 : decide (1048576 < (pm.size : Int)) = false := by simp; omega
  have e2 : decide (1048576 < (nm.size : Int) + pm.size) = false := by simp; omega
  have e3 : decide (1048576 < (n : Int)) = false := by simp; omega
  have e4 : decide (1048576 < (nm.size : Int) + pm.size + n) = false := by simp; omega
  simp only [e0, e1, e2, e3, e4]
  clear e0 e1 e2 e3 e4
  have c9 : (w.alloc (.cells #[.string nm, .int .u8 q, .string pm, .bool nb, .int .i64 mp, .bool b1, .bool b2, .bool b3, .bool b4, .slice a n c] 24)).cell? ⟨w.heap.size, 9, none⟩ = some (.slice a n c) := (cell_new w _ 24 9).trans rfl
  generalize w.alloc (.cells #[.string nm, .int .u8 q, .string pm, .bool nb, .int .i64 mp, .bool b1, .bool b2, .bool b3, .bool b4, .slice a n c] 24) = W1 at *
  have HS0 : Hid (Strs w a n S) := hS
  clear hS
  go_loopg [9, 10] n (fun g z i wr => wr = W1 ∧ ∃ (t k : Nat), k + g = n ∧ t ≤ 1048576 ∧ z = .int .i64 t ∧ i = .int .i64 k ∧ Hid (∀ j, j < k → (S j).size ≤ 1048576))
  case atStart => exact ⟨rfl, nm.size + pm.size + n, 0, by omega, by omega, by go_num, rfl, fun j hj => absurd hj (by omega)⟩
  case round =>
    obtain ⟨hwr, t, k, hk, ht, rfl, rfl, HS⟩ := hrel
    obtain rfl := hwr
    by_cases hlt : k < n
    · obtain ⟨b, off, rfl, hrow⟩ := hS1.resolve_left (by omega)
      obtain ⟨c0, hsz⟩ := hrow k hlt
      unfold maxLen at hsz
      have HR : Hid (∀ i, i < n → wr.cell? ⟨b, off + i, none⟩ = some (.string (S i)) ∧ (S i).size ≤ maxLen) := hrow
      clear hrow hS1
      generalize hu : S k = u at *
      have Hu : Hid (S k = u) := hu
      clear hu
      have hltI : (k : Int) < (n : Int) := by omega
      go_wp2
      · go_ret
        exact ⟨false, rfl, hBel, fun h => by simp at h⟩
      · go_ret
        exact ⟨false, rfl, hBel, fun h => by simp at h⟩
      · have hub : (u.size : Int) ≤ 1048576 := by assumption
        have hut : (t : Int) + u.size ≤ 1048576 := by assumption
        go_roundg (gk - 1)
        case measure => omega
        case rel => exact ⟨rfl, t + u.size, k + 1, by omega, by omega, by go_num, by go_num, fun x hx => by
            by_cases e : x = k
            · subst e; rw [Hu.out]; omega
            · exact HS.out x (by omega)⟩
    · have hge : ¬ (k : Int) < (n : Int) := by omega
      go_wp2
      go_ret
      obtain rfl : k = n := by omega
      exact ⟨true, rfl, hBel, fun _ => ⟨by omega, by omega, by omega, HS.out⟩⟩
def Zz20Post (nm pm : ByteArray) (n : Nat) (S : Nat → ByteArray) (pre : ByteArray) (w : World) (e : Ending) (w' : World) : Prop := ∃ r : Bool, e = .returned (.bool r) ∧ Below w.heap.size w w' ∧ (r = true → nm.size ≤ 1048576 ∧ pm.size ≤ 1048576 ∧ n ≤ 1048576 ∧ (∀ i, i < n → (S i).size ≤ 1048576) ∧ pre.size ≤ 1048576)
set_option maxHeartbeats 4000000 in
set_option maxRecDepth 100000 in
theorem zz20_any (nm pm : ByteArray) (q mp : Int) (nb b1 b2 b3 b4 : Bool) (a : Option Addr) (n c : Nat) (S : Nat → ByteArray) (pre : ByteArray) (y z : Int) (w : World) (hS : Strs w a n S) (hnm : nm.size ≤ maxLen) (hpm : pm.size ≤ maxLen) (hn : n ≤ maxLen) (hpre : pre.size ≤ maxLen) :
    Calls Tryd.prog 20 #[.agg #[.string nm, .int .u8 q, .string pm, .bool nb, .int .i64 mp, .bool b1, .bool b2, .bool b3, .bool b4, .slice a n c], .string pre, .int .i64 y, .int .i64 z] w (Zz20Post nm pm n S pre w) := by
  unfold maxLen at hnm hpm hn hpre
  have hBel : Below w.heap.size w (w.alloc (.cells #[.string nm, .int .u8 q, .string pm, .bool nb, .int .i64 mp, .bool b1, .bool b2, .bool b3, .bool b4, .slice a n c] 24)) := (Below.refl _ _).alloc (Nat.le_refl _) _
  have hS1 := hS.below hBel
  go_enter Tryd.func20, Tryd.ntmps20
  go_wp2
  iterate 5 (· go_ret; exact ⟨false, rfl, hBel, fun h => by simp at h⟩)
  have k0 : (nm.size : Int) ≤ 1048576 := by assumption
  have k1 : (pm.size : Int) ≤ 1048576 := by assumption
  have k2 : (nm.size : Int) + pm.size ≤ 1048576 := by assumption
  have k3 : (n : Int) ≤ 1048576 := by assumption
  have k4 : (nm.size : Int) + pm.size + n ≤ 1048576 := by assumption
  have e0 : decide (1048576 < (nm.size : Int)) = false := by simp; omega
  have e1 : decide (1048576 < (pm.size : Int)) = false := by simp; omega
  have e2 : decide (1048576 < (nm.size : Int) + pm.size) = false := by simp; omega
  have e3 : decide (1048576 < (n : Int)) = false := by simp; omega
  have e4 : decide (1048576 < (nm.size : Int) + pm.size + n) = false := by simp; omega
  simp only [e0, e1, e2, e3, e4]
  clear e0 e1 e2 e3 e4
  have c9 : (w.alloc (.cells #[.string nm, .int .u8 q, .string pm, .bool nb, .int .i64 mp, .bool b1, .bool b2, .bool b3, .bool b4, .slice a n c] 24)).cell? ⟨w.heap.size, 9, none⟩ = some (.slice a n c) := (cell_new w _ 24 9).trans rfl
  generalize w.alloc (.cells #[.string nm, .int .u8 q, .string pm, .bool nb, .int .i64 mp, .bool b1, .bool b2, .bool b3, .bool b4, .slice a n c] 24) = W1 at *
  have HS0 : Hid (Strs w a n S) := hS
  clear hS
  go_loopg [9, 10] n (fun g z i wr => wr = W1 ∧ ∃ (t k : Nat), k + g = n ∧ t ≤ 1048576 ∧ z = .int .i64 t ∧ i = .int .i64 k ∧ Hid (∀ j, j < k → (S j).size ≤ 1048576))
  case atStart => exact ⟨rfl, nm.size + pm.size + n, 0, by omega, by omega, by go_num, rfl, fun j hj => absurd hj (by omega)⟩
  case round =>
    obtain ⟨hwr, t, k, hk, ht, rfl, rfl, HS⟩ := hrel
    obtain rfl := hwr
    by_cases hlt : k < n
    · obtain ⟨b, off, rfl, hrow⟩ := hS1.resolve_left (by omega)
      obtain ⟨c0, hsz⟩ := hrow k hlt
      unfold maxLen at hsz
      have HR : Hid (∀ i, i < n → wr.cell? ⟨b, off + i, none⟩ = some (.string (S i)) ∧ (S i).size ≤ maxLen) := hrow
      clear hrow hS1
      generalize hu : S k = u at *
      have Hu : Hid (S k = u) := hu
      clear hu
      have hltI : (k : Int) < (n : Int) := by omega
      go_wp2
      · go_ret
        exact ⟨false, rfl, hBel, fun h => by simp at h⟩
      · go_ret
        exact ⟨false, rfl, hBel, fun h => by simp at h⟩
      · have hub : (u.size : Int) ≤ 1048576 := by assumption
        have hut : (t : Int) + u.size ≤ 1048576 := by assumption
        go_roundg (gk - 1)
        case measure => omega
        case rel => exact ⟨rfl, t + u.size, k + 1, by omega, by omega, by go_num, by go_num, fun x hx => by
            by_cases e : x = k
            · subst e; rw [Hu.out]; omega
            · exact HS.out x (by omega)⟩
    · have hge : ¬ (k : Int) < (n : Int) := by omega
      go_wp2
      · go_ret
        exact ⟨false, rfl, hBel, fun h => by simp at h⟩
      · go_ret
        exact ⟨false, rfl, hBel, fun h => by simp at h⟩
      · go_ret
        obtain rfl : k = n := by omega
        exact ⟨true, rfl, hBel, fun _ => ⟨by omega, by omega, by omega, HS.out, by omega⟩⟩
def Zz24Post (nm pm : ByteArray) (n : Nat) (S : Nat → ByteArray) (pre : ByteArray) (w : World) (e : Ending) (w' : World) : Prop := ∃ r : Bool, e = .returned (.bool r) ∧ Below w.heap.size w w' ∧ (r = true → nm.size ≤ 1048576 ∧ pm.size ≤ 1048576 ∧ n ≤ 1048576 ∧ (∀ i, i < n → (S i).size ≤ 1048576) ∧ pre.size ≤ 1048576)
set_option maxHeartbeats 4000000 in
set_option maxRecDepth 100000 in
theorem zz24_any (nm pm : ByteArray) (q mp : Int) (nb b1 b2 b3 b4 : Bool) (a : Option Addr) (n c : Nat) (S : Nat → ByteArray) (pre : ByteArray) (x y z : Int) (w : World) (hS : Strs w a n S) (hnm : nm.size ≤ maxLen) (hpm : pm.size ≤ maxLen) (hn : n ≤ maxLen) (hpre : pre.size ≤ maxLen) :
    Calls Tryd.prog 24 #[.agg #[.string nm, .int .u8 q, .string pm, .bool nb, .int .i64 mp, .bool b1, .bool b2, .bool b3, .bool b4, .slice a n c], .string pre, .int .i64 x, .int .i64 y, .int .i64 z] w (Zz24Post nm pm n S pre w) := by
  unfold maxLen at hnm hpm hn hpre
  have hBel : Below w.heap.size w (w.alloc (.cells #[.string nm, .int .u8 q, .string pm, .bool nb, .int .i64 mp, .bool b1, .bool b2, .bool b3, .bool b4, .slice a n c] 24)) := (Below.refl _ _).alloc (Nat.le_refl _) _
  have hS1 := hS.below hBel
  go_enter Tryd.func24, Tryd.ntmps24
  go_wp2
  iterate 5 (· go_ret; exact ⟨false, rfl, hBel, fun h => by simp at h⟩)
  have k0 : (nm.size : Int) ≤ 1048576 := by assumption
  have k1 : (pm.size : Int) ≤ 1048576 := by assumption
  have k2 : (nm.size : Int) + pm.size ≤ 1048576 := by assumption
  have k3 : (n : Int) ≤ 1048576 := by assumption
  have k4 : (nm.size : Int) + pm.size + n ≤ 1048576 := by assumption
  have e0 : decide (1048576 < (nm.size : Int)) = false := by simp; omega
  have e1 : decide (1048576 < (pm.size : Int)) = false := by simp; omega
  have e2 : decide (1048576 < (nm.size : Int) + pm.size) = false := by simp; omega
  have e3 : decide (1048576 < (n : Int)) = false := by simp; omega
  have e4 : decide (1048576 < (nm.size : Int) + pm.size + n) = false := by simp; omega
  simp only [e0, e1, e2, e3, e4]
  clear e0 e1 e2 e3 e4
  have c9 : (w.alloc (.cells #[.string nm, .int .u8 q, .string pm, .bool nb, .int .i64 mp, .bool b1, .bool b2, .bool b3, .bool b4, .slice a n c] 24)).cell? ⟨w.heap.size, 9, none⟩ = some (.slice a n c) := (cell_new w _ 24 9).trans rfl
  generalize w.alloc (.cells #[.string nm, .int .u8 q, .string pm, .bool nb, .int .i64 mp, .bool b1, .bool b2, .bool b3, .bool b4, .slice a n c] 24) = W1 at *
  have HS0 : Hid (Strs w a n S) := hS
  clear hS
  go_loopg [11, 12] n (fun g z i wr => wr = W1 ∧ ∃ (t k : Nat), k + g = n ∧ t ≤ 1048576 ∧ z = .int .i64 t ∧ i = .int .i64 k ∧ Hid (∀ j, j < k → (S j).size ≤ 1048576))
  case atStart => exact ⟨rfl, nm.size + pm.size + n, 0, by omega, by omega, by go_num, rfl, fun j hj => absurd hj (by omega)⟩
  case round =>
    obtain ⟨hwr, t, k, hk, ht, rfl, rfl, HS⟩ := hrel
    obtain rfl := hwr
    by_cases hlt : k < n
    · obtain ⟨b, off, rfl, hrow⟩ := hS1.resolve_left (by omega)
      obtain ⟨c0, hsz⟩ := hrow k hlt
      unfold maxLen at hsz
      have HR : Hid (∀ i, i < n → wr.cell? ⟨b, off + i, none⟩ = some (.string (S i)) ∧ (S i).size ≤ maxLen) := hrow
      clear hrow hS1
      generalize hu : S k = u at *
      have Hu : Hid (S k = u) := hu
      clear hu
      have hltI : (k : Int) < (n : Int) := by omega
      go_wp2
      · go_ret
        exact ⟨false, rfl, hBel, fun h => by simp at h⟩
      · go_ret
        exact ⟨false, rfl, hBel, fun h => by simp at h⟩
      · have hub : (u.size : Int) ≤ 1048576 := by assumption
        have hut : (t : Int) + u.size ≤ 1048576 := by assumption
        go_roundg (gk - 1)
        case measure => omega
        case rel => exact ⟨rfl, t + u.size, k + 1, by omega, by omega, by go_num, by go_num, fun x hx => by
            by_cases e : x = k
            · subst e; rw [Hu.out]; omega
            · exact HS.out x (by omega)⟩
    · have hge : ¬ (k : Int) < (n : Int) := by omega
      go_wp2
      · go_ret
        exact ⟨false, rfl, hBel, fun h => by simp at h⟩
      · go_ret
        exact ⟨false, rfl, hBel, fun h => by simp at h⟩
      · go_ret
        obtain rfl : k = n := by omega
        exact ⟨true, rfl, hBel, fun _ => ⟨by omega, by omega, by omega, HS.out, by omega⟩⟩
def DbPost (w : World) (e : Ending) (w' : World) : Prop := ∃ r : Int, e = .returned (.int .i64 r) ∧ Below w.heap.size w w' ∧ 0 ≤ r ∧ r ≤ 2097153
set_option maxHeartbeats 4000000 in
set_option maxRecDepth 100000 in
theorem dialectBytes_any (nm pm : ByteArray) (q mp : Int) (nb b1 b2 b3 b4 : Bool) (a : Option Addr) (n c : Nat) (S : Nat → ByteArray) (w : World) (hS : Strs w a n S) (hnm : nm.size ≤ 1048576) (hpm : pm.size ≤ 1048576) (hn : n ≤ 1048576) (hSS : ∀ i, i < n → (S i).size ≤ 1048576) :
    Calls Tryd.prog 27 #[.agg #[.string nm, .int .u8 q, .string pm, .bool nb, .int .i64 mp, .bool b1, .bool b2, .bool b3, .bool b4, .slice a n c]] w (DbPost w) := by
  have hBel : Below w.heap.size w (w.alloc (.cells #[.string nm, .int .u8 q, .string pm, .bool nb, .int .i64 mp, .bool b1, .bool b2, .bool b3, .bool b4, .slice a n c] 24)) := (Below.refl _ _).alloc (Nat.le_refl _) _
  have hS1 := hS.below hBel
  have HSS : Hid (∀ i, i < n → (S i).size ≤ 1048576) := hSS
  have HS0 : Hid (Strs w a n S) := hS
  clear hS hSS
  have e3 : decide (1048576 < (n : Int)) = false := by simp; omega
  have c9 : (w.alloc (.cells #[.string nm, .int .u8 q, .string pm, .bool nb, .int .i64 mp, .bool b1, .bool b2, .bool b3, .bool b4, .slice a n c] 24)).cell? ⟨w.heap.size, 9, none⟩ = some (.slice a n c) := (cell_new w _ 24 9).trans rfl
  have c2 : (w.alloc (.cells #[.string nm, .int .u8 q, .string pm, .bool nb, .int .i64 mp, .bool b1, .bool b2, .bool b3, .bool b4, .slice a n c] 24)).cell? ⟨w.heap.size, 2, none⟩ = some (.string pm) := (cell_new w _ 24 2).trans rfl
  go_enter Tryd.func27, Tryd.ntmps27
  go_wp2_with fail
  refine (addLen_any 0 nm.size _ (by omega) (by omega) (by omega) (by omega)).mono ?_
  rintro e w1 ⟨r1, rfl, hw, hr1, hr1', hr1''⟩
  obtain rfl := hw
  clear hr1''
  generalize w.alloc (.cells #[.string nm, .int .u8 q, .string pm, .bool nb, .int .i64 mp, .bool b1, .bool b2, .bool b3, .bool b4, .slice a n c] 24) = W1 at *
  go_wp2_with fail
  refine (addLen_any r1 pm.size _ (by omega) (by omega) (by omega) (by omega)).mono ?_
  rintro e w1 ⟨r2, rfl, hw, hr2, hr2', hr2''⟩
  obtain rfl := hw
  clear hr2''
  go_wp2_with fail
  refine (addLen_any r2 _ _ (by omega) (by omega) (by omega) (by omega)).mono ?_
  rintro e w1 ⟨r3, rfl, hw, hr3, hr3', hr3''⟩
  obtain rfl := hw
  clear hr3''
  go_wp2_with fail
  go_loopg [3, 4] n (fun g z i wr => wr = w1 ∧ ∃ (t : Int) (k : Nat), k + g = n ∧ 0 ≤ t ∧ t ≤ 2097153 ∧ z = .int .i64 t ∧ i = .int .i64 k)
  case atStart => exact ⟨rfl, r3, 0, by omega, by omega, by omega, rfl, rfl⟩
  case round =>
    obtain ⟨hwr, t, k, hk, ht, ht', rfl, rfl⟩ := hrel
    obtain rfl := hwr
    by_cases hlt : k < n
    · have hltI : decide ((k : Int) < (n : Int)) = true := by simp; omega
      obtain ⟨b, off, rfl, hrow⟩ := hS1.resolve_left (by omega)
      obtain ⟨c0, _⟩ := hrow k hlt
      have hsz := HSS.out k hlt
      have HR : Hid (∀ i, i < n → wr.cell? ⟨b, off + i, none⟩ = some (.string (S i)) ∧ (S i).size ≤ maxLen) := hrow
      clear hrow hS1
      generalize S k = u at *
      by_cases htl : t ≤ 1048576
      · have htd : decide (t ≤ 1048576) = true := by simp; omega
        go_wp2_with fail
        refine (addLen_any t u.size _ (by omega) (by omega) (by omega) (by omega)).mono ?_
        rintro e w1 ⟨r4, rfl, hw, hr4, hr4', hr4''⟩
        obtain rfl := hw
        clear hr4''
        go_wp2_with fail
        go_roundg (gk - 1)
        case measure => omega
        case rel => exact ⟨rfl, r4, k + 1, by omega, by omega, by omega, rfl, by go_num⟩
      · have htd : decide (t ≤ 1048576) = false := by simp; omega
        go_wp2_with fail
        go_ret
        exact ⟨t, rfl, hBel, ht, ht'⟩
    · have hltI : decide ((k : Int) < (n : Int)) = false := by simp; omega
      go_wp2_with fail
      go_ret
      exact ⟨t, rfl, hBel, ht, ht'⟩
def BigPost (rows n : Int) (w : World) (e : Ending) (w' : World) : Prop := ∃ r : Bool, e = .returned (.bool r) ∧ Below w.heap.size w w' ∧ (r = false → rows ≤ 65536 ∧ rows.toNat * n.toNat ≤ 65536)
set_option maxHeartbeats 4000000 in
set_option maxRecDepth 100000 in
theorem bigRows_any (nm pm : ByteArray) (q mp : Int) (nb b1 b2 b3 b4 : Bool) (a : Option Addr) (n c : Nat) (S : Nat → ByteArray) (pre : ByteArray) (rows m : Int) (w : World) (hS : Strs w a n S) (hnm : nm.size ≤ 1048576) (hpm : pm.size ≤ 1048576) (hn : n ≤ 1048576) (hSS : ∀ i, i < n → (S i).size ≤ 1048576) (hpre : pre.size ≤ 1048576) (hm : m ≤ 9223372036854775807) :
    Calls Tryd.prog 21 #[.agg #[.string nm, .int .u8 q, .string pm, .bool nb, .int .i64 mp, .bool b1, .bool b2, .bool b3, .bool b4, .slice a n c], .string pre, .int .i64 rows, .int .i64 m] w (BigPost rows m w) := by
  have hBel : Below w.heap.size w (w.alloc (.cells #[.string nm, .int .u8 q, .string pm, .bool nb, .int .i64 mp, .bool b1, .bool b2, .bool b3, .bool b4, .slice a n c] 24)) := (Below.refl _ _).alloc (Nat.le_refl _) _
  have hS1 := hS.below hBel
  have HSS : Hid (∀ i, i < n → (S i).size ≤ 1048576) := hSS
  have HS0 : Hid (Strs w a n S) := hS
  clear hS hSS
  have c2 : (w.alloc (.cells #[.string nm, .int .u8 q, .string pm, .bool nb, .int .i64 mp, .bool b1, .bool b2, .bool b3, .bool b4, .slice a n c] 24)).cell? ⟨w.heap.size, 2, none⟩ = some (.string pm) := (cell_new w _ 24 2).trans rfl
  go_enter Tryd.func21, Tryd.ntmps21
  go_wp2_with fail
  refine (dialectBytes_any nm pm q mp nb b1 b2 b3 b4 a n c S _ hS1 hnm hpm hn HSS.out).mono ?_
  rintro e w1 ⟨r1, rfl, hb1, hr1, hr1'⟩
  have c2' : w1.cell? ⟨w.heap.size, 2, none⟩ = some (.string pm) := by rw [hb1.cell (p := ⟨w.heap.size, 2, none⟩) (by exact lt_of_cell c2)]; exact c2
  have hB1 : Below w.heap.size w w1 := hBel.trans (hb1.mono (by simp))
  clear hBel hb1 c2 hS1
  go_wp2_with fail
  refine (addLen_any r1 pre.size _ (by omega) (by omega) (by omega) (by omega)).mono ?_
  rintro e w2 ⟨r2, rfl, hw, hr2, hr2', hr2''⟩
  obtain rfl := hw
  clear hr2''
  by_cases h2 : r2 ≤ 1048576
  · have h2d : decide (1048576 < r2) = false := by simp; omega
    by_cases hr : rows ≤ 65536
    · have hrd : decide (65536 < rows) = false := by simp; omega
      by_cases hr0 : rows ≤ 0
      · have hr0d : decide (0 < rows) = false := by simp; omega
        go_wp2_with fail
        refine (tooMany_any _ _ _ (by omega) (by omega)).mono ?_
        rintro e w3 ⟨r, rfl, hw⟩
        obtain rfl := hw
        go_wp2_with fail
        go_ret
        exact ⟨r, rfl, hB1, fun _ => ⟨hr, by rw [show rows.toNat = 0 by omega]; omega⟩⟩
      · have hr0d : decide (0 < rows) = true := by simp; omega
        obtain ⟨R, rfl⟩ : ∃ R : Nat, rows = (R : Int) := ⟨rows.toNat, by omega⟩
        by_cases hm0 : m ≤ 0
        · have hm0d : decide (0 < m) = false := by simp; omega
          go_wp2_with fail
          refine (tooMany_any _ _ _ (by omega) (by omega)).mono ?_
          rintro e w3 ⟨r, rfl, hw⟩
          obtain rfl := hw
          go_wp2_with fail
          go_ret
          exact ⟨r, rfl, hB1, fun _ => ⟨hr, by rw [show m.toNat = 0 by omega]; omega⟩⟩
        · have hm0d : decide (0 < m) = true := by simp; omega
          obtain ⟨M, rfl⟩ : ∃ M : Nat, m = (M : Int) := ⟨m.toNat, by omega⟩
          have hRne : ¬ (R : Int) = 0 := by omega
          have hRnb : ((R : Int) == 0) = false := by simp; omega
          obtain ⟨Q, hQ⟩ : ∃ Q, Q = 65536 / R := ⟨_, rfl⟩
          have hQb : Q ≤ 65536 := by rw [hQ]; exact Nat.div_le_self _ _
          have hqt : Int.tdiv 65536 (R : Int) = (Q : Int) := by rw [hQ]; rfl
          have HQ : Hid (Q = 65536 / R) := hQ
          clear hQ
          by_cases hMQ : M ≤ Q
          · have hMQd : decide ((Q : Int) < (M : Int)) = false := by simp; omega
            have hRM : R * M ≤ 65536 := by
              have h1 : R * M ≤ R * Q := Nat.mul_le_mul_left R hMQ
              have h3 : R * Q ≤ 65536 := by rw [HQ.out, Nat.mul_comm]; exact Nat.div_mul_le_self _ _
              omega
            obtain ⟨P, hP⟩ : ∃ P, P = R * M := ⟨_, rfl⟩
            have hPb : P ≤ 65536 := by omega
            have hw1 : IntKind.i64.wrap ((R : Int) * (M : Int)) = (P : Int) := by
              have h2 : ((R : Int) * (M : Int)) = (P : Int) := by rw [hP]; exact (Int.natCast_mul R M).symm
              rw [h2, IntKind.wrap_i64]; omega
            have HP : Hid (P = R * M) := hP
            have HRM : Hid (R * M ≤ 65536) := hRM
            clear hP hRM
            go_wp2_with fail
            refine (tooMany_any _ _ _ (by omega) (by omega)).mono ?_
            rintro e w3 ⟨r, rfl, hw⟩
            obtain rfl := hw
            go_wp2_with fail
            go_ret
            exact ⟨r, rfl, hB1, fun _ => ⟨hr, by simpa using HRM.out⟩⟩
          · have hMQd : decide ((Q : Int) < (M : Int)) = true := by simp; omega
            go_wp2_with fail
            go_ret
            exact ⟨true, rfl, hB1, fun h => by simp at h⟩
    · have hrd : decide (65536 < rows) = true := by simp; omega
      go_wp2_with fail
      go_ret
      exact ⟨true, rfl, hB1, fun h => by simp at h⟩
  · have h2d : decide (1048576 < r2) = true := by simp; omega
    go_wp2_with fail
    go_ret
    exact ⟨true, rfl, hB1, fun h => by simp at h⟩
theorem fillStr (z : Nat → ByteArray) (i k : Nat) : (if i = k then Value.string (z k) else Value.string (if i < k then z i else ⟨#[]⟩)) = Value.string (if i < k + 1 then z i else ⟨#[]⟩) := by
  by_cases e : i = k
  · subst e; simp
  · have : (i < k + 1) ↔ (i < k) := by omega
    simp [e, this]
def ClonePost (w : World) (n : Nat) (e : Ending) (w' : World) : Prop := ∃ a' c', e = .returned (.slice a' n c') ∧ Below w.heap.size w w'
set_option maxHeartbeats 1600000 in
theorem cloneStrings_any (a : Option Addr) (n c : Nat) (z : Nat → ByteArray) (w : World) (hn : n ≤ 1048576) (h : Strs w a n z) (hnil : a = none → n = 0) :
    Calls Tryd.prog 10 #[.slice a n c] w (ClonePost w n) := by
  have q22 : ∀ (w : World) (a : Option Addr) (n c n' c' : Nat), (binOp .eql 22 (.slice a n c) (.slice none n' c')).run Tryd.prog w = .ok (.bool a.isNone) w := fun w a n c n' c' => Lib.run_eql_slice_nil w _ _ a n c n' c' Tryd.underlying22
  cases a with
  | none =>
    obtain rfl := hnil rfl
    go_enter Tryd.func10, Tryd.ntmps10
    go_wp2
    go_ret
    exact ⟨none, 0, rfl, Below.refl _ _⟩
  | some ad =>
    have hmk := run_make_row' (P := Tryd.prog) 22 9 (.string ⟨#[]⟩) 16 Tryd.underlying22 Tryd.info9 rfl .i64 .i64 n (by omega) (by omega)
    have hW0 := World.rowIs_made w (.string ⟨#[]⟩) n 9
    have hB0 : Below w.heap.size w (w.alloc (Obj.cells (madeCells #[Value.string ⟨#[]⟩] n) 9)) := (Below.refl _ _).alloc (Nat.le_refl _) _
    go_enter Tryd.func10, Tryd.ntmps10
    go_wp2
    go_loopg [4] n (fun g i wr => ∃ k : Nat, k + g = n ∧ i = .int .i64 k ∧ Below w.heap.size w wr ∧ wr.rowIs w.heap.size 9 n (fun j => .string (if j < k then z j else ⟨#[]⟩)))
    case atStart => exact ⟨0, by omega, rfl, hB0, by simpa using hW0⟩
    case round =>
      obtain ⟨k, hk, rfl, hbel, hrow⟩ := hrel
      by_cases hlt : k < n
      · obtain ⟨b, off, had, hcell⟩ := h.resolve_left (by omega)
        obtain rfl := Option.some.inj had
        have h1 : wr.cell? ⟨b, off + k, none⟩ = some (.string (z k)) := by
          rw [hbel.cell (p := ⟨b, off + k, none⟩) (by exact lt_of_cell (hcell k hlt).1)]; exact (hcell k hlt).1
        have h2 : wr.frozen? ⟨w.heap.size, k, none⟩ = false := hrow.frozen k
        have h3 : wr.cell? ⟨w.heap.size, k, none⟩ = some (.string ⟨#[]⟩) := by simpa using hrow.cell hlt
        clear hmk hW0 hB0 had
        go_wp2
        go_roundg (gk - 1)
        case measure => omega
        case rel => exact ⟨k + 1, by omega, by go_num, hbel.setCell (by simp) _, (hrow.set k _).congr (fun i hi => fillStr z i k)⟩
      · go_wp2
        go_ret
        exact ⟨_, _, rfl, hbel⟩
def MkPost (pm : ByteArray) (nb : Bool) (w : World) (e : Ending) (w' : World) : Prop := ∃ d, e = .returned (.pointer (some ⟨d, 0, none⟩)) ∧ Below w.heap.size w w' ∧ IsDia w' w'.heap.size d pm nb
set_option maxHeartbeats 1600000 in
theorem newDialect_any (nm pm : ByteArray) (q mp : Int) (nb b1 b2 b3 b4 : Bool) (a : Option Addr) (n c : Nat) (w : World) :
    Calls Tryd.prog 30 #[.string nm, .int .u8 q, .string pm, .bool nb, .int .i64 mp, .bool b1, .bool b2, .bool b3, .bool b4, .slice a n c] w (MkPost pm nb w) := by
  have hBel : Below w.heap.size w (w.alloc (.cells #[.string nm, .int .u8 q, .string pm, .bool nb, .int .i64 mp, .bool b1, .bool b2, .bool b3, .bool b4, .slice a n c] 68)) := (Below.refl _ _).alloc (Nat.le_refl _) _
  have c2 : (w.alloc (.cells #[.string nm, .int .u8 q, .string pm, .bool nb, .int .i64 mp, .bool b1, .bool b2, .bool b3, .bool b4, .slice a n c] 68)).cell? ⟨w.heap.size, 2, none⟩ = some (.string pm) := (cell_new w _ 68 2).trans rfl
  have c3 : (w.alloc (.cells #[.string nm, .int .u8 q, .string pm, .bool nb, .int .i64 mp, .bool b1, .bool b2, .bool b3, .bool b4, .slice a n c] 68)).cell? ⟨w.heap.size, 3, none⟩ = some (.bool nb) := (cell_new w _ 68 3).trans rfl
  go_enter Tryd.func30, Tryd.ntmps30
  go_wp2
  go_ret
  exact ⟨_, rfl, hBel, lt_of_cell c2, c2, c3⟩
set_option maxHeartbeats 1600000 in
theorem mkDialect_any (nm pm : ByteArray) (q mp : Int) (nb b1 b2 b3 b4 : Bool) (a : Option Addr) (n c : Nat) (w : World) :
    Calls Tryd.prog 12 #[.agg #[.string nm, .int .u8 q, .string pm, .bool nb, .int .i64 mp, .bool b1, .bool b2, .bool b3, .bool b4, .slice a n c]] w (MkPost pm nb w) := by
  have hBel : Below w.heap.size w (w.alloc (.cells #[.string nm, .int .u8 q, .string pm, .bool nb, .int .i64 mp, .bool b1, .bool b2, .bool b3, .bool b4, .slice a n c] 24)) := (Below.refl _ _).alloc (Nat.le_refl _) _
  go_enter Tryd.func12, Tryd.ntmps12
  go_wp2_with fail
  refine (newDialect_any nm pm q mp nb b1 b2 b3 b4 a n c _).mono ?_
  rintro e w1 ⟨d, rfl, hb1, hd⟩
  go_wp2_with fail
  go_ret
  exact ⟨d, rfl, hBel.trans (hb1.mono (by simp)), hd⟩
end Go.Proofs.Qxb6602123aDoor
