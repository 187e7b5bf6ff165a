/-
  The shelf's contracts at this translation that a written version rests on: Builder's Len and String, strconv.Itoa. Written by the kit's own tool (lay-plain), cut down to these.
-/
import Derived.Shelf.Strings.Builder1
import Derived.Shelf.Strings.BuilderF
import Derived.Shelf.Strings.BuilderK
import Derived.Shelf.LaysM
import Derived.Shelf.Strconv.Itoa3
import Derived.Test.YtnpghnipjienoaaDoorProg
namespace Go.Proofs
open Go.Shelf
def Tryd.lays170_ren : Go.Shelf.Ren := ⟨fun | 170 => 45 | n => n, fun | 70 => 92 | 3 => 3 | 0 => 0 | 72 => 95 | 37 => 93 | 5 => 5 | n => n, fun | n => n⟩
theorem Tryd.lays170 : Go.Proofs.Lays.n170 Tryd.prog Tryd.lays170_ren := {
  mixed := by kernel_rfl
  f170 := Tryd.func45.trans (congrArg some (by kernel_rfl))
  t0 := Tryd.underlying0
  a0 := Tryd.isAgg0
  z0 := Tryd.sizeOf0
  v0 := Tryd.zeroValue0
  t3 := Tryd.underlying3
  a3 := Tryd.isAgg3
  z3 := Tryd.sizeOf3
  v3 := Tryd.zeroValue3
  t37 := Tryd.underlying93
  a37 := Tryd.isAgg93
  z37 := Tryd.sizeOf93
  v37 := Tryd.zeroValue93
  t70 := Tryd.underlying92
  a70 := Tryd.isAgg92
  z70 := Tryd.sizeOf92
  v70 := Tryd.zeroValue92
  t72 := Tryd.underlying95
  a72 := Tryd.isAgg95
  z72 := Tryd.sizeOf95
  v72 := Tryd.zeroValue95 }
def Tryd.lays169_ren : Go.Shelf.Ren := ⟨fun | 169 => 49 | n => n, fun | 70 => 92 | 9 => 9 | 0 => 0 | 72 => 95 | 37 => 93 | 127 => 112 | 3 => 3 | 5 => 5 | n => n, fun | n => n⟩
theorem Tryd.lays169 : Go.Proofs.Lays.n169 Tryd.prog Tryd.lays169_ren := {
  mixed := by kernel_rfl
  f169 := Tryd.func49.trans (congrArg some (by kernel_rfl))
  t0 := Tryd.underlying0
  a0 := Tryd.isAgg0
  z0 := Tryd.sizeOf0
  v0 := Tryd.zeroValue0
  t3 := Tryd.underlying3
  a3 := Tryd.isAgg3
  z3 := Tryd.sizeOf3
  v3 := Tryd.zeroValue3
  t9 := Tryd.underlying9
  a9 := Tryd.isAgg9
  z9 := Tryd.sizeOf9
  v9 := Tryd.zeroValue9
  t37 := Tryd.underlying93
  a37 := Tryd.isAgg93
  z37 := Tryd.sizeOf93
  v37 := Tryd.zeroValue93
  t70 := Tryd.underlying92
  a70 := Tryd.isAgg92
  z70 := Tryd.sizeOf92
  v70 := Tryd.zeroValue92
  t72 := Tryd.underlying95
  a72 := Tryd.isAgg95
  z72 := Tryd.sizeOf95
  v72 := Tryd.zeroValue95
  t127 := Tryd.underlying112
  a127 := Tryd.isAgg112
  z127 := Tryd.sizeOf112
  v127 := Tryd.zeroValue112 }
theorem Tryd.Builder_Extra_169 : Builder.Extra Tryd.prog Tryd.lays169_ren := {
  sizeBuilder := by kernel_rfl
  liesBuilder := by kernel_rfl
  t5 := Tryd.underlying5
  a5 := Tryd.isAgg5
  z5 := Tryd.sizeOf5
  v5 := Tryd.zeroValue5
  infoByte := by kernel_rfl
  cellsByte := by kernel_rfl
  sizeByte := by kernel_rfl
  neB5 := by decide }
open Go.RowKit in
theorem Tryd.Builder_Len_f (B b : Nat) (bs : List Value) (w : World) (h : Lib.IsBuilderF 95 5 B b bs w) :
    Calls Tryd.prog 45 #[.pointer (some ⟨b, 0, none⟩)] w fun e w' => e = .returned (.int .i64 bs.length) ∧ w' = w := Any.Builder_Len_f Tryd.lays170 B b bs w h
open Go.RowKit in
theorem Tryd.Builder_String_any_k (B b : Nat) (l : List UInt8) (w : World) (h : Lib.IsBuilderF 95 5 B b (Lib.byteCells l) w) (hBw : B ≤ w.heap.size) :
    Calls Tryd.prog 49 #[.pointer (some ⟨b, 0, none⟩)] w fun e w' => e = .returned (.string ⟨l.toArray⟩) ∧ (Lib.IsBuilderF 95 5 B b (Lib.byteCells l) w' ∧ Below B w w' ∧ Lib.OthersKept 5 (some b) w w') := Any.Builder_String_any_k Tryd.lays169 Tryd.Builder_Extra_169 B b l w h hBw
def Tryd.laysM171_ren : Go.Shelf.Ren := ⟨fun | 171 => 48 | 243 => 57 | 246 => 63 | 283 => 68 | 284 => 69 | 285 => 70 | 286 => 71 | 129 => 78 | 317 => 77 | 318 => 79 | 319 => 80 | 320 => 81 | 337 => 85 | 338 => 86 | n => n, fun | 3 => 3 | 9 => 9 | 2 => 2 | 4 => 4 | 171 => 120 | 0 => 0 | 53 => 39 | 37 => 93 | 5 => 5 | 173 => 123 | 212 => 133 | 51 => 115 | 20 => 20 | 213 => 134 | 46 => 119 | 232 => 149 | 233 => 150 | n => n, fun | 17 => 1 | 18 => 4 | 19 => 5 | n => n⟩
theorem Tryd.laysM171 : Go.Proofs.LaysM.n171 Tryd.prog Tryd.laysM171_ren := {
  mixed := by kernel_rfl
  f129 := Tryd.func78.trans (congrArg some (by kernel_rfl))
  f171 := Tryd.func48.trans (congrArg some (by kernel_rfl))
  f243 := Tryd.func57.trans (congrArg some (by kernel_rfl))
  f246 := Tryd.func63.trans (congrArg some (by kernel_rfl))
  f283 := Tryd.func68.trans (congrArg some (by kernel_rfl))
  f284 := Tryd.func69.trans (congrArg some (by kernel_rfl))
  f285 := Tryd.func70.trans (congrArg some (by kernel_rfl))
  f286 := Tryd.func71.trans (congrArg some (by kernel_rfl))
  f317 := Tryd.func77.trans (congrArg some (by kernel_rfl))
  f318 := Tryd.func79.trans (congrArg some (by kernel_rfl))
  f319 := Tryd.func80.trans (congrArg some (by kernel_rfl))
  f320 := Tryd.func81.trans (congrArg some (by kernel_rfl))
  f337 := Tryd.func85.trans (congrArg some (by kernel_rfl))
  f338 := Tryd.func86.trans (congrArg some (by kernel_rfl))
  t0 := Tryd.underlying0
  a0 := Tryd.isAgg0
  z0 := Tryd.sizeOf0
  v0 := Tryd.zeroValue0
  t2 := Tryd.underlying2
  a2 := Tryd.isAgg2
  z2 := Tryd.sizeOf2
  v2 := Tryd.zeroValue2
  t3 := Tryd.underlying3
  a3 := Tryd.isAgg3
  z3 := Tryd.sizeOf3
  v3 := Tryd.zeroValue3
  t4 := Tryd.underlying4
  a4 := Tryd.isAgg4
  z4 := Tryd.sizeOf4
  v4 := Tryd.zeroValue4
  t5 := Tryd.underlying5
  a5 := Tryd.isAgg5
  z5 := Tryd.sizeOf5
  v5 := Tryd.zeroValue5
  t9 := Tryd.underlying9
  a9 := Tryd.isAgg9
  z9 := Tryd.sizeOf9
  v9 := Tryd.zeroValue9
  t20 := Tryd.underlying20
  a20 := Tryd.isAgg20
  z20 := Tryd.sizeOf20
  v20 := Tryd.zeroValue20
  t37 := Tryd.underlying93
  a37 := Tryd.isAgg93
  z37 := Tryd.sizeOf93
  v37 := Tryd.zeroValue93
  t46 := Tryd.underlying119
  a46 := Tryd.isAgg119
  z46 := Tryd.sizeOf119
  v46 := Tryd.zeroValue119
  t51 := Tryd.underlying115
  a51 := Tryd.isAgg115
  z51 := Tryd.sizeOf115
  v51 := Tryd.zeroValue115
  t53 := Tryd.underlying39
  a53 := Tryd.isAgg39
  z53 := Tryd.sizeOf39
  v53 := Tryd.zeroValue39
  t171 := Tryd.underlying120
  a171 := Tryd.isAgg120
  z171 := Tryd.sizeOf120
  v171 := Tryd.zeroValue120
  t173 := Tryd.underlying123
  a173 := Tryd.isAgg123
  z173 := Tryd.sizeOf123
  v173 := Tryd.zeroValue123
  t212 := Tryd.underlying133
  a212 := Tryd.isAgg133
  z212 := Tryd.sizeOf133
  v212 := Tryd.zeroValue133
  t213 := Tryd.underlying134
  a213 := Tryd.isAgg134
  z213 := Tryd.sizeOf134
  t232 := Tryd.underlying149
  a232 := Tryd.isAgg149
  z232 := Tryd.sizeOf149
  v232 := Tryd.zeroValue149
  t233 := Tryd.underlying150
  a233 := Tryd.isAgg150
  z233 := Tryd.sizeOf150
  v233 := Tryd.zeroValue150
  g17 := by kernel_rfl
  g18 := by kernel_rfl
  g19 := by kernel_rfl
  i0 := by kernel_rfl
  i2 := by kernel_rfl
  i3 := by kernel_rfl
  i4 := by kernel_rfl
  i5 := by kernel_rfl
  i9 := by kernel_rfl
  i20 := by kernel_rfl
  i37 := by kernel_rfl
  i46 := by kernel_rfl
  i51 := by kernel_rfl
  i53 := by kernel_rfl
  i171 := by kernel_rfl
  i173 := by kernel_rfl
  i212 := by kernel_rfl
  i232 := by kernel_rfl
  i233 := by kernel_rfl
  m17 := by kernel_rfl
  m18 := by kernel_rfl
  m19 := by kernel_rfl }
open Go.RowKit Go.Sort Go.Lib in
theorem Tryd.strconv_Itoa (n : Int) (h0 : -9223372036854775808 ≤ n) (h1 : n ≤ 9223372036854775807) (w : World) (htab : Lib.TabIs Tryd.prog w "internal/strconv.uint64pow10" .u64 Lib.pow10Tab) :
    Calls Tryd.prog 48 #[.int .i64 n] w fun e w' => e = .returned (.string ⟨(Lib.itoa n).toArray⟩) ∧ ∃ k os, w' = grow (w.drewN k) os := Any.strconv_Itoa Tryd.laysM171 n h0 h1 w htab
end Go.Proofs
