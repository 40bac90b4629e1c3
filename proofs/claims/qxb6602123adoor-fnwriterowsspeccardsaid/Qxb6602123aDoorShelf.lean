/-
  The shelf's contracts at this dump, in plain words (lay-plain.mjs out of lay-shelf.mjs's text; WriteString's laying typed by hand: the tool does not lay it here).
-/
import Derived.Shelf.Strings.Builder1
import Derived.Shelf.Strconv.Itoa0
import Derived.Shelf.Strconv.Itoa1
import Derived.Shelf.LaysM
import Derived.Shelf.Strconv.Itoa2
import Derived.Shelf.Strconv.Itoa3
import Derived.Test.Qxb6602123aDoorProg
namespace Go.Proofs
open Go.Shelf
def Tryd.lays169_ren : Go.Shelf.Ren := ⟨fun | 169 => 34 | n => n, fun | 70 => 53 | 9 => 9 | 0 => 0 | 72 => 56 | 37 => 54 | 127 => 71 | 3 => 3 | 5 => 5 | n => n, fun | n => n⟩
theorem Tryd.lays169 : Go.Proofs.Lays.n169 Tryd.prog Tryd.lays169_ren := {
  mixed := by kernel_rfl
  f169 := Tryd.func34.trans (congrArg some (by kernel_rfl))
  t0 := Tryd.underlying0
  a0 := Tryd.isAgg0
  z0 := Tryd.sizeOf0
  v0 := Tryd.zeroValue0
  t3 := Tryd.underlying3
  a3 := Tryd.isAgg3
  z3 := Tryd.sizeOf3
  v3 := Tryd.zeroValue3
  t9 := Tryd.underlying9
  a9 := Tryd.isAgg9
  z9 := Tryd.sizeOf9
  v9 := Tryd.zeroValue9
  t37 := Tryd.underlying54
  a37 := Tryd.isAgg54
  z37 := Tryd.sizeOf54
  v37 := Tryd.zeroValue54
  t70 := Tryd.underlying53
  a70 := Tryd.isAgg53
  z70 := Tryd.sizeOf53
  v70 := Tryd.zeroValue53
  t72 := Tryd.underlying56
  a72 := Tryd.isAgg56
  z72 := Tryd.sizeOf56
  v72 := Tryd.zeroValue56
  t127 := Tryd.underlying71
  a127 := Tryd.isAgg71
  z127 := Tryd.sizeOf71
  v127 := Tryd.zeroValue71 }
theorem Tryd.Builder_Extra_169 : Builder.Extra Tryd.prog Tryd.lays169_ren := {
  sizeBuilder := by kernel_rfl
  liesBuilder := by kernel_rfl
  t5 := Tryd.underlying5
  a5 := Tryd.isAgg5
  z5 := Tryd.sizeOf5
  v5 := Tryd.zeroValue5
  infoByte := by kernel_rfl
  cellsByte := by kernel_rfl
  sizeByte := by kernel_rfl
  neB5 := by decide }
open Go.RowKit in
theorem Tryd.Builder_String (B b : Nat) (l : List UInt8) (w : World) (h : Lib.IsBuilder 56 5 B b (Lib.byteCells l) w) (h0 : l ≠ []) :
    Calls Tryd.prog 34 #[.pointer (some ⟨b, 0, none⟩)] w fun e w' => e = .returned (.string ⟨l.toArray⟩) ∧ Below B w w' := Any.Builder_String Tryd.lays169 Tryd.Builder_Extra_169 B b l w h h0
open Go.RowKit in
theorem Tryd.Builder_String_empty (B b : Nat) (w : World) (h : Lib.IsBuilder 56 5 B b [] w) (hBw : B ≤ w.heap.size) :
    Calls Tryd.prog 34 #[.pointer (some ⟨b, 0, none⟩)] w fun e w' => e = .returned (.string ⟨#[]⟩) ∧ Below B w w' := Any.Builder_String_empty Tryd.lays169 Tryd.Builder_Extra_169 B b w h hBw
open Go.RowKit in
theorem Tryd.Builder_String_any (B b : Nat) (l : List UInt8) (w : World) (h : Lib.IsBuilder 56 5 B b (Lib.byteCells l) w) (hBw : B ≤ w.heap.size) :
    Calls Tryd.prog 34 #[.pointer (some ⟨b, 0, none⟩)] w fun e w' => e = .returned (.string ⟨l.toArray⟩) ∧ Below B w w' := Any.Builder_String_any Tryd.lays169 Tryd.Builder_Extra_169 B b l w h hBw
def Tryd.laysM171_ren : Go.Shelf.Ren := ⟨fun | 171 => 49 | 243 => 51 | 246 => 56 | 283 => 62 | 284 => 63 | 285 => 64 | 286 => 65 | 129 => 72 | 317 => 71 | 318 => 73 | 319 => 74 | 320 => 75 | 337 => 78 | 338 => 79 | n => n, fun | 3 => 3 | 9 => 9 | 2 => 2 | 4 => 4 | 171 => 80 | 0 => 0 | 53 => 89 | 37 => 54 | 5 => 5 | 173 => 92 | 212 => 102 | 51 => 103 | 20 => 20 | 213 => 104 | 46 => 96 | 232 => 110 | 233 => 111 | n => n, fun | 17 => 3 | 18 => 4 | 19 => 5 | n => n⟩
theorem Tryd.laysM171 : Go.Proofs.LaysM.n171 Tryd.prog Tryd.laysM171_ren := {
  mixed := by kernel_rfl
  f129 := Tryd.func72.trans (congrArg some (by kernel_rfl))
  f171 := Tryd.func49.trans (congrArg some (by kernel_rfl))
  f243 := Tryd.func51.trans (congrArg some (by kernel_rfl))
  f246 := Tryd.func56.trans (congrArg some (by kernel_rfl))
  f283 := Tryd.func62.trans (congrArg some (by kernel_rfl))
  f284 := Tryd.func63.trans (congrArg some (by kernel_rfl))
  f285 := Tryd.func64.trans (congrArg some (by kernel_rfl))
  f286 := Tryd.func65.trans (congrArg some (by kernel_rfl))
  f317 := Tryd.func71.trans (congrArg some (by kernel_rfl))
  f318 := Tryd.func73.trans (congrArg some (by kernel_rfl))
  f319 := Tryd.func74.trans (congrArg some (by kernel_rfl))
  f320 := Tryd.func75.trans (congrArg some (by kernel_rfl))
  f337 := Tryd.func78.trans (congrArg some (by kernel_rfl))
  f338 := Tryd.func79.trans (congrArg some (by kernel_rfl))
  t0 := Tryd.underlying0
  a0 := Tryd.isAgg0
  z0 := Tryd.sizeOf0
  v0 := Tryd.zeroValue0
  t2 := Tryd.underlying2
  a2 := Tryd.isAgg2
  z2 := Tryd.sizeOf2
  v2 := Tryd.zeroValue2
  t3 := Tryd.underlying3
  a3 := Tryd.isAgg3
  z3 := Tryd.sizeOf3
  v3 := Tryd.zeroValue3
  t4 := Tryd.underlying4
  a4 := Tryd.isAgg4
  z4 := Tryd.sizeOf4
  v4 := Tryd.zeroValue4
  t5 := Tryd.underlying5
  a5 := Tryd.isAgg5
  z5 := Tryd.sizeOf5
  v5 := Tryd.zeroValue5
  t9 := Tryd.underlying9
  a9 := Tryd.isAgg9
  z9 := Tryd.sizeOf9
  v9 := Tryd.zeroValue9
  t20 := Tryd.underlying20
  a20 := Tryd.isAgg20
  z20 := Tryd.sizeOf20
  v20 := Tryd.zeroValue20
  t37 := Tryd.underlying54
  a37 := Tryd.isAgg54
  z37 := Tryd.sizeOf54
  v37 := Tryd.zeroValue54
  t46 := Tryd.underlying96
  a46 := Tryd.isAgg96
  z46 := Tryd.sizeOf96
  v46 := Tryd.zeroValue96
  t51 := Tryd.underlying103
  a51 := Tryd.isAgg103
  z51 := Tryd.sizeOf103
  v51 := Tryd.zeroValue103
  t53 := Tryd.underlying89
  a53 := Tryd.isAgg89
  z53 := Tryd.sizeOf89
  v53 := Tryd.zeroValue89
  t171 := Tryd.underlying80
  a171 := Tryd.isAgg80
  z171 := Tryd.sizeOf80
  v171 := Tryd.zeroValue80
  t173 := Tryd.underlying92
  a173 := Tryd.isAgg92
  z173 := Tryd.sizeOf92
  v173 := Tryd.zeroValue92
  t212 := Tryd.underlying102
  a212 := Tryd.isAgg102
  z212 := Tryd.sizeOf102
  v212 := Tryd.zeroValue102
  t213 := Tryd.underlying104
  a213 := Tryd.isAgg104
  z213 := Tryd.sizeOf104
  t232 := Tryd.underlying110
  a232 := Tryd.isAgg110
  z232 := Tryd.sizeOf110
  v232 := Tryd.zeroValue110
  t233 := Tryd.underlying111
  a233 := Tryd.isAgg111
  z233 := Tryd.sizeOf111
  v233 := Tryd.zeroValue111
  g17 := by kernel_rfl
  g18 := by kernel_rfl
  g19 := by kernel_rfl
  i0 := by kernel_rfl
  i2 := by kernel_rfl
  i3 := by kernel_rfl
  i4 := by kernel_rfl
  i5 := by kernel_rfl
  i9 := by kernel_rfl
  i20 := by kernel_rfl
  i37 := by kernel_rfl
  i46 := by kernel_rfl
  i51 := by kernel_rfl
  i53 := by kernel_rfl
  i171 := by kernel_rfl
  i173 := by kernel_rfl
  i212 := by kernel_rfl
  i232 := by kernel_rfl
  i233 := by kernel_rfl
  m17 := by kernel_rfl
  m18 := by kernel_rfl
  m19 := by kernel_rfl }
open Go.RowKit Go.Sort Go.Lib in
theorem Tryd.strconv_Itoa (n : Int) (h0 : -9223372036854775808 ≤ n) (h1 : n ≤ 9223372036854775807) (w : World) (htab : Lib.TabIs Tryd.prog w "internal/strconv.uint64pow10" .u64 Lib.pow10Tab) :
    Calls Tryd.prog 49 #[.int .i64 n] w fun e w' => e = .returned (.string ⟨(Lib.itoa n).toArray⟩) ∧ ∃ k os, w' = grow (w.drewN k) os := Any.strconv_Itoa Tryd.laysM171 n h0 h1 w htab
def Tryd.lays166_ren : Go.Shelf.Ren := ⟨fun | 166 => 32 | 240 => 39 | 276 => 47 | n => n, fun | 70 => 53 | 72 => 56 | 37 => 54 | 75 => 58 | 80 => 62 | 164 => 76 | n => n, fun | n => n⟩
theorem Tryd.lays166 : Go.Proofs.Lays.n166 Tryd.prog Tryd.lays166_ren := {
  mixed := by kernel_rfl
  f166 := Tryd.func32.trans (congrArg some (by kernel_rfl))
  f240 := Tryd.func39.trans (congrArg some (by kernel_rfl))
  f276 := Tryd.func47.trans (congrArg some (by kernel_rfl))
  t0 := Tryd.underlying0
  a0 := Tryd.isAgg0
  z0 := Tryd.sizeOf0
  v0 := Tryd.zeroValue0
  t3 := Tryd.underlying3
  a3 := Tryd.isAgg3
  z3 := Tryd.sizeOf3
  v3 := Tryd.zeroValue3
  t4 := Tryd.underlying4
  a4 := Tryd.isAgg4
  z4 := Tryd.sizeOf4
  v4 := Tryd.zeroValue4
  t9 := Tryd.underlying9
  a9 := Tryd.isAgg9
  z9 := Tryd.sizeOf9
  v9 := Tryd.zeroValue9
  t20 := Tryd.underlying20
  a20 := Tryd.isAgg20
  z20 := Tryd.sizeOf20
  v20 := Tryd.zeroValue20
  t37 := Tryd.underlying54
  a37 := Tryd.isAgg54
  z37 := Tryd.sizeOf54
  v37 := Tryd.zeroValue54
  t70 := Tryd.underlying53
  a70 := Tryd.isAgg53
  z70 := Tryd.sizeOf53
  v70 := Tryd.zeroValue53
  t72 := Tryd.underlying56
  a72 := Tryd.isAgg56
  z72 := Tryd.sizeOf56
  v72 := Tryd.zeroValue56
  t75 := Tryd.underlying58
  a75 := Tryd.isAgg58
  z75 := Tryd.sizeOf58
  v75 := Tryd.zeroValue58
  t164 := Tryd.underlying76
  a164 := Tryd.isAgg76
  z164 := Tryd.sizeOf76
  v164 := Tryd.zeroValue76 }
theorem Tryd.Builder_Extra_166 : Builder.Extra Tryd.prog Tryd.lays166_ren := {
  sizeBuilder := by kernel_rfl
  liesBuilder := by kernel_rfl
  t5 := Tryd.underlying5
  a5 := Tryd.isAgg5
  z5 := Tryd.sizeOf5
  v5 := Tryd.zeroValue5
  infoByte := by kernel_rfl
  cellsByte := by kernel_rfl
  sizeByte := by kernel_rfl
  neB5 := by decide }
open Go.RowKit in
theorem Tryd.Builder_WriteString (B b : Nat) (bs : List Value) (s : ByteArray) (w : World) (h : Lib.IsBuilder 56 5 B b bs w) (hlen : bs.length + s.size ≤ 140737488355328) (hBw : B ≤ w.heap.size) :
    Calls Tryd.prog 32 #[.pointer (some ⟨b, 0, none⟩), .string s] w fun e w' => e = .returned (.tuple #[.int .i64 s.size, .nilIface]) ∧ (Lib.BuilderAt 56 5 B b (.pointer (some ⟨b, 0, none⟩)) (bs ++ Lib.strCells s) w' ∧ Below B w w') := Any.Builder_WriteString Tryd.lays166 Tryd.Builder_Extra_166 B b bs s w h hlen hBw
end Go.Proofs
