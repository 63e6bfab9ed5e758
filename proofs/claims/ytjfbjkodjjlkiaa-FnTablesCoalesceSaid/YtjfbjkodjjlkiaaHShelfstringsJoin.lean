/- Contracts of the library's own functions, laid off the shelf over this dump: Try.strings_Join_none, Try.strings_Join. -/
import Derived.Shelf.Strings.Builder1
import Derived.Shelf.Strings.Builder2
import Derived.Shelf.Strings.OnBuilder
import Derived.Shelf.Small.Bits
import Derived.Shelf.Strings.BuilderF
import Derived.Shelf.Strings.BuilderK
import Derived.Shelf.Strings.Builder2Cap
import Derived.Shelf.Strings.BuilderCap
import Derived.Test.YtjfbjkodjjlkiaaProg
namespace Go.Proofs
open Go.Shelf
def Try.lays156_ren : Go.Shelf.Ren := ⟨fun | 156 => 116 | 165 => 128 | 166 => 129 | 169 => 130 | 240 => 133 | 241 => 134 | 276 => 135 | 277 => 136 | n => n, fun | 31 => 23 | 9 => 9 | 3 => 3 | 4 => 4 | 0 => 0 | 20 => 20 | 72 => 163 | 76 => 165 | 70 => 160 | 37 => 161 | 75 => 72 | 127 => 170 | 164 => 171 | 5 => 5 | 80 => 153 | n => n, fun | n => n⟩
theorem Try.lays156 : Go.Proofs.Lays.n156 Try.prog Try.lays156_ren := {
  mixed := by kernel_rfl
  f156 := Try.func116.trans (congrArg some (by kernel_rfl))
  f165 := Try.func128.trans (congrArg some (by kernel_rfl))
  f166 := Try.func129.trans (congrArg some (by kernel_rfl))
  f169 := Try.func130.trans (congrArg some (by kernel_rfl))
  f240 := Try.func133.trans (congrArg some (by kernel_rfl))
  f241 := Try.func134.trans (congrArg some (by kernel_rfl))
  f276 := Try.func135.trans (congrArg some (by kernel_rfl))
  f277 := Try.func136.trans (congrArg some (by kernel_rfl))
  t0 := Try.underlying0
  a0 := Try.isAgg0
  z0 := Try.sizeOf0
  v0 := Try.zeroValue0
  t3 := Try.underlying3
  a3 := Try.isAgg3
  z3 := Try.sizeOf3
  v3 := Try.zeroValue3
  t4 := Try.underlying4
  a4 := Try.isAgg4
  z4 := Try.sizeOf4
  v4 := Try.zeroValue4
  t9 := Try.underlying9
  a9 := Try.isAgg9
  z9 := Try.sizeOf9
  v9 := Try.zeroValue9
  t20 := Try.underlying20
  a20 := Try.isAgg20
  z20 := Try.sizeOf20
  v20 := Try.zeroValue20
  t31 := Try.underlying23
  a31 := Try.isAgg23
  z31 := Try.sizeOf23
  v31 := Try.zeroValue23
  t37 := Try.underlying161
  a37 := Try.isAgg161
  z37 := Try.sizeOf161
  v37 := Try.zeroValue161
  t70 := Try.underlying160
  a70 := Try.isAgg160
  z70 := Try.sizeOf160
  v70 := Try.zeroValue160
  t72 := Try.underlying163
  a72 := Try.isAgg163
  z72 := Try.sizeOf163
  v72 := Try.zeroValue163
  t75 := Try.underlying72
  a75 := Try.isAgg72
  z75 := Try.sizeOf72
  v75 := Try.zeroValue72
  t76 := Try.underlying165
  a76 := Try.isAgg165
  z76 := Try.sizeOf165
  v76 := Try.zeroValue165
  t127 := Try.underlying170
  a127 := Try.isAgg170
  z127 := Try.sizeOf170
  v127 := Try.zeroValue170
  t164 := Try.underlying171
  a164 := Try.isAgg171
  z164 := Try.sizeOf171
  v164 := Try.zeroValue171 }
theorem Try.Builder_Extra_156 : Builder.Extra Try.prog Try.lays156_ren := {
  sizeBuilder := by kernel_rfl
  liesBuilder := by kernel_rfl
  t5 := Try.underlying5
  a5 := Try.isAgg5
  z5 := Try.sizeOf5
  v5 := Try.zeroValue5
  infoByte := by kernel_rfl
  cellsByte := by kernel_rfl
  sizeByte := by kernel_rfl
  neB5 := by decide }
open Go.RowKit in
theorem Try.strings_Join_none (a : Option Addr) (c : Nat) (sep : ByteArray) (w : World) :
    Calls Try.prog 116 #[.slice a 0 c, .string sep] w fun e w' => e = .returned (.string ⟨#[]⟩) ∧ w' = w := Any.strings_Join_none Try.lays156 Try.Builder_Extra_156 a c sep w
open Go.RowKit in
theorem Try.strings_Join (bk o c : Nat) (xs : List ByteArray) (sep : ByteArray) (w : World) (hcells : ∀ (j : Nat) x, xs[j]? = some x → w.cell? ⟨bk, o + j, none⟩ = some (.string x)) (hbk : bk < w.heap.size) (hN : xs.length ≤ 140737488355328) (hcap : xs.length ≤ c) (hlen : (Lib.join (xs.map (·.data.toList)) sep.data.toList).length ≤ 140737488355328) :
    Calls Try.prog 116 #[.slice (some ⟨bk, o, none⟩) xs.length c, .string sep] w fun e w' => e = .returned (.string ⟨(Lib.join (xs.map (·.data.toList)) sep.data.toList).toArray⟩) ∧ Below w.heap.size w w' := Any.strings_Join Try.lays156 Try.Builder_Extra_156 bk o c xs sep w hcells hbk hN hcap hlen

end Go.Proofs
