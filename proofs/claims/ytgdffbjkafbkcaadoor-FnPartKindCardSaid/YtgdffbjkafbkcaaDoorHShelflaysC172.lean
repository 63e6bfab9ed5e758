/- Contracts of the library's own functions, laid off the shelf over this dump: Tryd.laysC172_ren, Tryd.laysC172. -/
import Derived.Shelf.Small.Bits
import Derived.Shelf.Strconv.Atoi
import Derived.Shelf.Strconv.Itoa0
import Derived.Shelf.Strconv.Itoa1
import Derived.Shelf.LaysM
import Derived.Shelf.Strconv.Itoa2
import Derived.Shelf.Strconv.Itoa3
import Derived.Shelf.Strconv.AtoiErrFast
import Derived.Shelf.Strconv.ParseIntEmpty
import Derived.Shelf.Strconv.AtoiFail
import Derived.Shelf.Strconv.Clone
import Derived.Shelf.Strconv.SyntaxError
import Derived.Shelf.LaysC
import Derived.Shelf.Strconv.ToError
import Derived.Shelf.Strconv.Lower
import Derived.Shelf.Strconv.ParseUint10
import Derived.Shelf.Strconv.ParseUint10Empty
import Derived.Shelf.Strconv.ParseUint10Any
import Derived.Shelf.Strconv.ParseInt10
import Derived.Shelf.Strconv.AtoiLong
import Derived.Shelf.Strconv.AtoiInnerAll
import Derived.Shelf.Strconv.RangeError
import Derived.Shelf.Strconv.ToErrorRange
import Derived.Shelf.Strconv.AtoiAll
import Derived.Shelf.Strconv.ErrVarAll
import Derived.Shelf.Sort.Plain
import Derived.Shelf.Strings.Prefix
import Derived.Shelf.Unicode.Decode
import Derived.Shelf.Unicode.DecodeSlow
import Derived.Shelf.Unicode.DecodeAny
import Derived.Shelf.Slices.In.SortNone
import Derived.Test.YtgdffbjkafbkcaaDoorProg
namespace Go.Proofs
open Go.Shelf
def Tryd.laysC172_ren : Go.Shelf.Ren := ⟨fun | 172 => 26 | 244 => 35 | 245 => 36 | 247 => 42 | 279 => 43 | 280 => 44 | 281 => 45 | 282 => 46 | 287 => 53 | 316 => 54 | 171 => 56 | 205 => 55 | 321 => 79 | 322 => 80 | 243 => 81 | 246 => 92 | 283 => 96 | 284 => 97 | 285 => 98 | 286 => 99 | 129 => 78 | 317 => 101 | 318 => 102 | 319 => 103 | 320 => 104 | 337 => 105 | 338 => 106 | n => n, fun | 9 => 9 | 3 => 3 | 75 => 48 | 76 => 49 | 4 => 4 | 5 => 5 | 167 => 64 | 37 => 65 | 0 => 0 | 85 => 66 | 2 => 2 | 168 => 68 | 53 => 84 | 175 => 85 | 46 => 83 | 210 => 89 | 127 => 118 | 145 => 121 | 143 => 119 | 21 => 21 | 171 => 142 | 173 => 144 | 212 => 148 | 51 => 34 | 20 => 20 | 213 => 149 | 232 => 155 | 233 => 156 | 80 => 157 | n => n, fun | 15 => 0 | 16 => 1 | 17 => 4 | 18 => 7 | 19 => 8 | n => n⟩
theorem Tryd.laysC172 : Go.Proofs.LaysC.n172 Tryd.prog Tryd.laysC172_ren := {
  mixed := by kernel_rfl
  f129 := Tryd.func78.trans (congrArg some (by kernel_rfl))
  f171 := Tryd.func56.trans (congrArg some (by kernel_rfl))
  f172 := Tryd.func26.trans (congrArg some (by kernel_rfl))
  f205 := Tryd.func55.trans (congrArg some (by kernel_rfl))
  f243 := Tryd.func81.trans (congrArg some (by kernel_rfl))
  f244 := Tryd.func35.trans (congrArg some (by kernel_rfl))
  f245 := Tryd.func36.trans (congrArg some (by kernel_rfl))
  f246 := Tryd.func92.trans (congrArg some (by kernel_rfl))
  f247 := Tryd.func42.trans (congrArg some (by kernel_rfl))
  f279 := Tryd.func43.trans (congrArg some (by kernel_rfl))
  f280 := Tryd.func44.trans (congrArg some (by kernel_rfl))
  f281 := Tryd.func45.trans (congrArg some (by kernel_rfl))
  f282 := Tryd.func46.trans (congrArg some (by kernel_rfl))
  f283 := Tryd.func96.trans (congrArg some (by kernel_rfl))
  f284 := Tryd.func97.trans (congrArg some (by kernel_rfl))
  f285 := Tryd.func98.trans (congrArg some (by kernel_rfl))
  f286 := Tryd.func99.trans (congrArg some (by kernel_rfl))
  f287 := Tryd.func53.trans (congrArg some (by kernel_rfl))
  f316 := Tryd.func54.trans (congrArg some (by kernel_rfl))
  f317 := Tryd.func101.trans (congrArg some (by kernel_rfl))
  f318 := Tryd.func102.trans (congrArg some (by kernel_rfl))
  f319 := Tryd.func103.trans (congrArg some (by kernel_rfl))
  f320 := Tryd.func104.trans (congrArg some (by kernel_rfl))
  f321 := Tryd.func79.trans (congrArg some (by kernel_rfl))
  f322 := Tryd.func80.trans (congrArg some (by kernel_rfl))
  f337 := Tryd.func105.trans (congrArg some (by kernel_rfl))
  f338 := Tryd.func106.trans (congrArg some (by kernel_rfl))
  t0 := Tryd.underlying0
  a0 := Tryd.isAgg0
  z0 := Tryd.sizeOf0
  v0 := Tryd.zeroValue0
  t2 := Tryd.underlying2
  a2 := Tryd.isAgg2
  z2 := Tryd.sizeOf2
  v2 := Tryd.zeroValue2
  t3 := Tryd.underlying3
  a3 := Tryd.isAgg3
  z3 := Tryd.sizeOf3
  v3 := Tryd.zeroValue3
  t4 := Tryd.underlying4
  a4 := Tryd.isAgg4
  z4 := Tryd.sizeOf4
  v4 := Tryd.zeroValue4
  t5 := Tryd.underlying5
  a5 := Tryd.isAgg5
  z5 := Tryd.sizeOf5
  v5 := Tryd.zeroValue5
  t9 := Tryd.underlying9
  a9 := Tryd.isAgg9
  z9 := Tryd.sizeOf9
  v9 := Tryd.zeroValue9
  t20 := Tryd.underlying20
  a20 := Tryd.isAgg20
  z20 := Tryd.sizeOf20
  v20 := Tryd.zeroValue20
  t21 := Tryd.underlying21
  a21 := Tryd.isAgg21
  z21 := Tryd.sizeOf21
  v21 := Tryd.zeroValue21
  t37 := Tryd.underlying65
  a37 := Tryd.isAgg65
  z37 := Tryd.sizeOf65
  v37 := Tryd.zeroValue65
  t46 := Tryd.underlying83
  a46 := Tryd.isAgg83
  z46 := Tryd.sizeOf83
  v46 := Tryd.zeroValue83
  t51 := Tryd.underlying34
  a51 := Tryd.isAgg34
  z51 := Tryd.sizeOf34
  v51 := Tryd.zeroValue34
  t53 := Tryd.underlying84
  a53 := Tryd.isAgg84
  z53 := Tryd.sizeOf84
  v53 := Tryd.zeroValue84
  t75 := Tryd.underlying48
  a75 := Tryd.isAgg48
  z75 := Tryd.sizeOf48
  v75 := Tryd.zeroValue48
  t76 := Tryd.underlying49
  a76 := Tryd.isAgg49
  z76 := Tryd.sizeOf49
  v76 := Tryd.zeroValue49
  t85 := Tryd.underlying66
  a85 := Tryd.isAgg66
  z85 := Tryd.sizeOf66
  v85 := Tryd.zeroValue66
  t127 := Tryd.underlying118
  a127 := Tryd.isAgg118
  z127 := Tryd.sizeOf118
  v127 := Tryd.zeroValue118
  t143 := Tryd.underlying119
  a143 := Tryd.isAgg119
  z143 := Tryd.sizeOf119
  v143 := Tryd.zeroValue119
  t145 := Tryd.underlying121
  a145 := Tryd.isAgg121
  z145 := Tryd.sizeOf121
  v145 := Tryd.zeroValue121
  t167 := Tryd.underlying64
  a167 := Tryd.isAgg64
  z167 := Tryd.sizeOf64
  v167 := Tryd.zeroValue64
  t168 := Tryd.underlying68
  a168 := Tryd.isAgg68
  z168 := Tryd.sizeOf68
  v168 := Tryd.zeroValue68
  t171 := Tryd.underlying142
  a171 := Tryd.isAgg142
  z171 := Tryd.sizeOf142
  v171 := Tryd.zeroValue142
  t173 := Tryd.underlying144
  a173 := Tryd.isAgg144
  z173 := Tryd.sizeOf144
  v173 := Tryd.zeroValue144
  t175 := Tryd.underlying85
  a175 := Tryd.isAgg85
  z175 := Tryd.sizeOf85
  v175 := Tryd.zeroValue85
  t210 := Tryd.underlying89
  a210 := Tryd.isAgg89
  z210 := Tryd.sizeOf89
  v210 := Tryd.zeroValue89
  t212 := Tryd.underlying148
  a212 := Tryd.isAgg148
  z212 := Tryd.sizeOf148
  v212 := Tryd.zeroValue148
  t213 := Tryd.underlying149
  a213 := Tryd.isAgg149
  z213 := Tryd.sizeOf149
  t232 := Tryd.underlying155
  a232 := Tryd.isAgg155
  z232 := Tryd.sizeOf155
  v232 := Tryd.zeroValue155
  t233 := Tryd.underlying156
  a233 := Tryd.isAgg156
  z233 := Tryd.sizeOf156
  v233 := Tryd.zeroValue156
  g15 := by kernel_rfl
  g16 := by kernel_rfl
  g17 := by kernel_rfl
  g18 := by kernel_rfl
  g19 := by kernel_rfl
  t80 := Tryd.underlying157
  a80 := Tryd.isAgg157
  z80 := Tryd.sizeOf157
  v80 := Tryd.zeroValue157
  i0 := by kernel_rfl
  i2 := by kernel_rfl
  i3 := by kernel_rfl
  i4 := by kernel_rfl
  i5 := by kernel_rfl
  i9 := by kernel_rfl
  i20 := by kernel_rfl
  i21 := by kernel_rfl
  i37 := by kernel_rfl
  i46 := by kernel_rfl
  i51 := by kernel_rfl
  i53 := by kernel_rfl
  i75 := by kernel_rfl
  i76 := by kernel_rfl
  i80 := by kernel_rfl
  i85 := by kernel_rfl
  i127 := by kernel_rfl
  i143 := by kernel_rfl
  i145 := by kernel_rfl
  i167 := by kernel_rfl
  i168 := by kernel_rfl
  i171 := by kernel_rfl
  i173 := by kernel_rfl
  i175 := by kernel_rfl
  i210 := by kernel_rfl
  i212 := by kernel_rfl
  i232 := by kernel_rfl
  i233 := by kernel_rfl
  m15 := by kernel_rfl
  m16 := by kernel_rfl
  m17 := by kernel_rfl
  m18 := by kernel_rfl
  m19 := by kernel_rfl
  c0 := by kernel_rfl
  c2 := by kernel_rfl
  c3 := by kernel_rfl
  c4 := by kernel_rfl
  c5 := by kernel_rfl
  c9 := by kernel_rfl
  c20 := by kernel_rfl
  c21 := by kernel_rfl
  c37 := by kernel_rfl
  c46 := by kernel_rfl
  c51 := by kernel_rfl
  c53 := by kernel_rfl
  c75 := by kernel_rfl
  c76 := by kernel_rfl
  c80 := by kernel_rfl
  c85 := by kernel_rfl
  c127 := by kernel_rfl
  c143 := by kernel_rfl
  c145 := by kernel_rfl
  c167 := by kernel_rfl
  c168 := by kernel_rfl
  c171 := by kernel_rfl
  c173 := by kernel_rfl
  c175 := by kernel_rfl
  c210 := by kernel_rfl
  c212 := by kernel_rfl
  c213 := by kernel_rfl
  c232 := by kernel_rfl
  c233 := by kernel_rfl }

end Go.Proofs
