/-
  The shelf's contracts at this translation of strconv.Atoi at every string. Written by the kit's own tool (lay-plain), cut down to these.
-/
import Derived.Shelf.Strings.Builder1
import Derived.Shelf.Small.Strs
import Derived.Shelf.Strings.BuilderF
import Derived.Shelf.Strings.BuilderK
import Derived.Shelf.Strings.BuilderRune
import Derived.Shelf.Strconv.Atoi
import Derived.Shelf.Strconv.Itoa0
import Derived.Shelf.Strconv.Itoa1
import Derived.Shelf.LaysM
import Derived.Shelf.Strconv.Itoa2
import Derived.Shelf.Strconv.Itoa3
import Derived.Shelf.Strconv.AtoiErrFast
import Derived.Shelf.Strconv.ParseIntEmpty
import Derived.Shelf.Strconv.AtoiFail
import Derived.Shelf.Strconv.Clone
import Derived.Shelf.Strconv.SyntaxError
import Derived.Shelf.LaysC
import Derived.Shelf.Strconv.ToError
import Derived.Shelf.Strconv.Lower
import Derived.Shelf.Strconv.ParseUint10
import Derived.Shelf.Strconv.ParseUint10Empty
import Derived.Shelf.Strconv.ParseUint10Any
import Derived.Shelf.Strconv.ParseInt10
import Derived.Shelf.Strconv.AtoiLong
import Derived.Shelf.Strconv.AtoiInnerAll
import Derived.Shelf.Strconv.RangeError
import Derived.Shelf.Strconv.ToErrorRange
import Derived.Shelf.Strconv.AtoiAll
import Derived.Shelf.Strconv.ErrVarAll
import Derived.Shelf.Strings.Search1
import Derived.Shelf.Strings.Prefix
import Derived.Test.YtnpghnipjienoaaDoorProg
namespace Go.Proofs
open Go.Shelf
def Tryd.laysC172_ren : Go.Shelf.Ren := ⟨fun | 172 => 60 | 244 => 66 | 245 => 67 | 247 => 72 | 279 => 73 | 280 => 74 | 281 => 75 | 282 => 76 | 287 => 82 | 316 => 83 | 171 => 48 | 205 => 84 | 321 => 87 | 322 => 88 | 243 => 57 | 246 => 63 | 283 => 68 | 284 => 69 | 285 => 70 | 286 => 71 | 129 => 78 | 317 => 77 | 318 => 79 | 319 => 80 | 320 => 81 | 337 => 85 | 338 => 86 | n => n, fun | 9 => 9 | 3 => 3 | 75 => 98 | 76 => 99 | 4 => 4 | 5 => 5 | 167 => 125 | 37 => 93 | 0 => 0 | 85 => 126 | 2 => 2 | 168 => 128 | 53 => 39 | 175 => 137 | 46 => 119 | 210 => 141 | 127 => 112 | 145 => 148 | 143 => 146 | 21 => 21 | 171 => 120 | 173 => 123 | 212 => 133 | 51 => 115 | 20 => 20 | 213 => 134 | 232 => 149 | 233 => 150 | 80 => 68 | n => n, fun | 15 => 2 | 16 => 3 | 17 => 1 | 18 => 4 | 19 => 5 | n => n⟩
theorem Tryd.laysC172 : Go.Proofs.LaysC.n172 Tryd.prog Tryd.laysC172_ren := {
  mixed := by kernel_rfl
  f129 := Tryd.func78.trans (congrArg some (by kernel_rfl))
  f171 := Tryd.func48.trans (congrArg some (by kernel_rfl))
  f172 := Tryd.func60.trans (congrArg some (by kernel_rfl))
  f205 := Tryd.func84.trans (congrArg some (by kernel_rfl))
  f243 := Tryd.func57.trans (congrArg some (by kernel_rfl))
  f244 := Tryd.func66.trans (congrArg some (by kernel_rfl))
  f245 := Tryd.func67.trans (congrArg some (by kernel_rfl))
  f246 := Tryd.func63.trans (congrArg some (by kernel_rfl))
  f247 := Tryd.func72.trans (congrArg some (by kernel_rfl))
  f279 := Tryd.func73.trans (congrArg some (by kernel_rfl))
  f280 := Tryd.func74.trans (congrArg some (by kernel_rfl))
  f281 := Tryd.func75.trans (congrArg some (by kernel_rfl))
  f282 := Tryd.func76.trans (congrArg some (by kernel_rfl))
  f283 := Tryd.func68.trans (congrArg some (by kernel_rfl))
  f284 := Tryd.func69.trans (congrArg some (by kernel_rfl))
  f285 := Tryd.func70.trans (congrArg some (by kernel_rfl))
  f286 := Tryd.func71.trans (congrArg some (by kernel_rfl))
  f287 := Tryd.func82.trans (congrArg some (by kernel_rfl))
  f316 := Tryd.func83.trans (congrArg some (by kernel_rfl))
  f317 := Tryd.func77.trans (congrArg some (by kernel_rfl))
  f318 := Tryd.func79.trans (congrArg some (by kernel_rfl))
  f319 := Tryd.func80.trans (congrArg some (by kernel_rfl))
  f320 := Tryd.func81.trans (congrArg some (by kernel_rfl))
  f321 := Tryd.func87.trans (congrArg some (by kernel_rfl))
  f322 := Tryd.func88.trans (congrArg some (by kernel_rfl))
  f337 := Tryd.func85.trans (congrArg some (by kernel_rfl))
  f338 := Tryd.func86.trans (congrArg some (by kernel_rfl))
  t0 := Tryd.underlying0
  a0 := Tryd.isAgg0
  z0 := Tryd.sizeOf0
  v0 := Tryd.zeroValue0
  t2 := Tryd.underlying2
  a2 := Tryd.isAgg2
  z2 := Tryd.sizeOf2
  v2 := Tryd.zeroValue2
  t3 := Tryd.underlying3
  a3 := Tryd.isAgg3
  z3 := Tryd.sizeOf3
  v3 := Tryd.zeroValue3
  t4 := Tryd.underlying4
  a4 := Tryd.isAgg4
  z4 := Tryd.sizeOf4
  v4 := Tryd.zeroValue4
  t5 := Tryd.underlying5
  a5 := Tryd.isAgg5
  z5 := Tryd.sizeOf5
  v5 := Tryd.zeroValue5
  t9 := Tryd.underlying9
  a9 := Tryd.isAgg9
  z9 := Tryd.sizeOf9
  v9 := Tryd.zeroValue9
  t20 := Tryd.underlying20
  a20 := Tryd.isAgg20
  z20 := Tryd.sizeOf20
  v20 := Tryd.zeroValue20
  t21 := Tryd.underlying21
  a21 := Tryd.isAgg21
  z21 := Tryd.sizeOf21
  v21 := Tryd.zeroValue21
  t37 := Tryd.underlying93
  a37 := Tryd.isAgg93
  z37 := Tryd.sizeOf93
  v37 := Tryd.zeroValue93
  t46 := Tryd.underlying119
  a46 := Tryd.isAgg119
  z46 := Tryd.sizeOf119
  v46 := Tryd.zeroValue119
  t51 := Tryd.underlying115
  a51 := Tryd.isAgg115
  z51 := Tryd.sizeOf115
  v51 := Tryd.zeroValue115
  t53 := Tryd.underlying39
  a53 := Tryd.isAgg39
  z53 := Tryd.sizeOf39
  v53 := Tryd.zeroValue39
  t75 := Tryd.underlying98
  a75 := Tryd.isAgg98
  z75 := Tryd.sizeOf98
  v75 := Tryd.zeroValue98
  t76 := Tryd.underlying99
  a76 := Tryd.isAgg99
  z76 := Tryd.sizeOf99
  v76 := Tryd.zeroValue99
  t85 := Tryd.underlying126
  a85 := Tryd.isAgg126
  z85 := Tryd.sizeOf126
  v85 := Tryd.zeroValue126
  t127 := Tryd.underlying112
  a127 := Tryd.isAgg112
  z127 := Tryd.sizeOf112
  v127 := Tryd.zeroValue112
  t143 := Tryd.underlying146
  a143 := Tryd.isAgg146
  z143 := Tryd.sizeOf146
  v143 := Tryd.zeroValue146
  t145 := Tryd.underlying148
  a145 := Tryd.isAgg148
  z145 := Tryd.sizeOf148
  v145 := Tryd.zeroValue148
  t167 := Tryd.underlying125
  a167 := Tryd.isAgg125
  z167 := Tryd.sizeOf125
  v167 := Tryd.zeroValue125
  t168 := Tryd.underlying128
  a168 := Tryd.isAgg128
  z168 := Tryd.sizeOf128
  v168 := Tryd.zeroValue128
  t171 := Tryd.underlying120
  a171 := Tryd.isAgg120
  z171 := Tryd.sizeOf120
  v171 := Tryd.zeroValue120
  t173 := Tryd.underlying123
  a173 := Tryd.isAgg123
  z173 := Tryd.sizeOf123
  v173 := Tryd.zeroValue123
  t175 := Tryd.underlying137
  a175 := Tryd.isAgg137
  z175 := Tryd.sizeOf137
  v175 := Tryd.zeroValue137
  t210 := Tryd.underlying141
  a210 := Tryd.isAgg141
  z210 := Tryd.sizeOf141
  v210 := Tryd.zeroValue141
  t212 := Tryd.underlying133
  a212 := Tryd.isAgg133
  z212 := Tryd.sizeOf133
  v212 := Tryd.zeroValue133
  t213 := Tryd.underlying134
  a213 := Tryd.isAgg134
  z213 := Tryd.sizeOf134
  t232 := Tryd.underlying149
  a232 := Tryd.isAgg149
  z232 := Tryd.sizeOf149
  v232 := Tryd.zeroValue149
  t233 := Tryd.underlying150
  a233 := Tryd.isAgg150
  z233 := Tryd.sizeOf150
  v233 := Tryd.zeroValue150
  g15 := by kernel_rfl
  g16 := by kernel_rfl
  g17 := by kernel_rfl
  g18 := by kernel_rfl
  g19 := by kernel_rfl
  t80 := Tryd.underlying68
  a80 := Tryd.isAgg68
  z80 := Tryd.sizeOf68
  v80 := Tryd.zeroValue68
  i0 := by kernel_rfl
  i2 := by kernel_rfl
  i3 := by kernel_rfl
  i4 := by kernel_rfl
  i5 := by kernel_rfl
  i9 := by kernel_rfl
  i20 := by kernel_rfl
  i21 := by kernel_rfl
  i37 := by kernel_rfl
  i46 := by kernel_rfl
  i51 := by kernel_rfl
  i53 := by kernel_rfl
  i75 := by kernel_rfl
  i76 := by kernel_rfl
  i80 := by kernel_rfl
  i85 := by kernel_rfl
  i127 := by kernel_rfl
  i143 := by kernel_rfl
  i145 := by kernel_rfl
  i167 := by kernel_rfl
  i168 := by kernel_rfl
  i171 := by kernel_rfl
  i173 := by kernel_rfl
  i175 := by kernel_rfl
  i210 := by kernel_rfl
  i212 := by kernel_rfl
  i232 := by kernel_rfl
  i233 := by kernel_rfl
  m15 := by kernel_rfl
  m16 := by kernel_rfl
  m17 := by kernel_rfl
  m18 := by kernel_rfl
  m19 := by kernel_rfl
  c0 := by kernel_rfl
  c2 := by kernel_rfl
  c3 := by kernel_rfl
  c4 := by kernel_rfl
  c5 := by kernel_rfl
  c9 := by kernel_rfl
  c20 := by kernel_rfl
  c21 := by kernel_rfl
  c37 := by kernel_rfl
  c46 := by kernel_rfl
  c51 := by kernel_rfl
  c53 := by kernel_rfl
  c75 := by kernel_rfl
  c76 := by kernel_rfl
  c80 := by kernel_rfl
  c85 := by kernel_rfl
  c127 := by kernel_rfl
  c143 := by kernel_rfl
  c145 := by kernel_rfl
  c167 := by kernel_rfl
  c168 := by kernel_rfl
  c171 := by kernel_rfl
  c173 := by kernel_rfl
  c175 := by kernel_rfl
  c210 := by kernel_rfl
  c212 := by kernel_rfl
  c213 := by kernel_rfl
  c232 := by kernel_rfl
  c233 := by kernel_rfl }
open Go.RowKit in
/-- strconv.Atoi, AT EVERY STRING THAT SPELLS AN int ('Lib.atoiAll .. = .ok v'; of whatever length: leading zeros count): v, AND NO ERROR. The world: as it was, or with the one new row that '[]byte(..)' lays. (LAID: no walk: one application.) -/
theorem Tryd.strconv_Atoi_ok (s : ByteArray) (hmax : s.size ≤ 9223372036854775806) (v : Int) (h : Lib.atoiAll s.data.toList = .ok v) (w : World) :
    Calls Tryd.prog 60 #[.string s] w fun e w' => e = .returned (.tuple #[.int .i64 v, .nilIface]) ∧ (w' = w ∨ ∃ t, w' = Lib.bytesWorld w 5 t) := Any.strconv_Atoi_ok Tryd.laysC172 s hmax v h w
open Go.RowKit in
/-- strconv.Atoi, AT EVERY NUMERAL THAT NO int HOLDS ('.range'): THE GREATEST OR THE LEAST int, BY THE SIGN ('Lib.atoiSat'), AND AN ERROR THAT IS NOT nil: a *NumError in a new block N: {Func: "Atoi", Num: s's bytes, Err: what the variable ErrRange holds}. Of what was there nothing has turned. (LAID: no walk: one application.) -/
theorem Tryd.strconv_Atoi_range (s : ByteArray) (hlim : s.size ≤ 281474976710656) (h : Lib.atoiAll s.data.toList = .range) (ev : Value) (w : World) (hv : w.cell? ⟨3, 0, none⟩ = some ev) (hev : ev = .nilIface ∨ ∃ te pe, ev = .iface te pe) :
    Calls Tryd.prog 60 #[.string s] w fun e w' => ∃ N, e = .returned (.tuple #[.int .i64 (Lib.atoiSat s.data.toList), .iface 128 (.pointer (some ⟨N, 0, none⟩))]) ∧ w.heap.size ≤ N ∧ w'.heap[N]? = some (.cells #[.string ⟨#[65, 116, 111, 105]⟩, .string s, ev] 141 (0, 0)) ∧ Below w.heap.size w w' := Any.strconv_Atoi_range Tryd.laysC172 s hlim h ev w hv hev
end Go.Proofs
