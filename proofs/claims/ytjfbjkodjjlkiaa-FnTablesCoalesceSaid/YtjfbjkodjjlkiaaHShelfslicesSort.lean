/- Contracts of the library's own functions, laid off the shelf over this dump: Try.slices_Sort_string, Try.slices_Sort_string_none. -/
import Derived.Shelf.Sort.Plain
import Derived.Shelf.Slices.In.SortNone
import Derived.Test.YtjfbjkodjjlkiaaProg
namespace Go.Proofs
open Go.Shelf
def Try.lays190_ren : Go.Shelf.Ren := ⟨fun | 190 => 73 | 125 => 91 | 258 => 90 | 128 => 112 | 129 => 113 | 302 => 103 | 303 => 104 | 304 => 105 | 305 => 106 | 306 => 107 | 307 => 108 | 308 => 109 | 309 => 110 | 310 => 111 | 333 => 122 | 329 => 123 | 330 => 124 | 334 => 125 | 335 => 126 | 336 => 127 | 344 => 132 | n => n, fun | 31 => 23 | 9 => 9 | 3 => 3 | 46 => 112 | 0 => 0 | 51 => 144 | 53 => 146 | 4 => 4 | 183 => 136 | 182 => 135 | 131 => 141 | 5 => 5 | 218 => 155 | 222 => 65 | 228 => 167 | 229 => 168 | n => n, fun | n => n⟩
theorem Try.lays190 : Go.Proofs.Lays.n190 Try.prog Try.lays190_ren := {
  mixed := by kernel_rfl
  f125 := Try.func91.trans (congrArg some (by kernel_rfl))
  f128 := Try.func112.trans (congrArg some (by kernel_rfl))
  f129 := Try.func113.trans (congrArg some (by kernel_rfl))
  f190 := Try.func73.trans (congrArg some (by kernel_rfl))
  f258 := Try.func90.trans (congrArg some (by kernel_rfl))
  f302 := Try.func103.trans (congrArg some (by kernel_rfl))
  f303 := Try.func104.trans (congrArg some (by kernel_rfl))
  f304 := Try.func105.trans (congrArg some (by kernel_rfl))
  f305 := Try.func106.trans (congrArg some (by kernel_rfl))
  f306 := Try.func107.trans (congrArg some (by kernel_rfl))
  f307 := Try.func108.trans (congrArg some (by kernel_rfl))
  f308 := Try.func109.trans (congrArg some (by kernel_rfl))
  f309 := Try.func110.trans (congrArg some (by kernel_rfl))
  f310 := Try.func111.trans (congrArg some (by kernel_rfl))
  f329 := Try.func123.trans (congrArg some (by kernel_rfl))
  f330 := Try.func124.trans (congrArg some (by kernel_rfl))
  f333 := Try.func122.trans (congrArg some (by kernel_rfl))
  f334 := Try.func125.trans (congrArg some (by kernel_rfl))
  f335 := Try.func126.trans (congrArg some (by kernel_rfl))
  f336 := Try.func127.trans (congrArg some (by kernel_rfl))
  f344 := Try.func132.trans (congrArg some (by kernel_rfl))
  t0 := Try.underlying0
  a0 := Try.isAgg0
  z0 := Try.sizeOf0
  v0 := Try.zeroValue0
  t3 := Try.underlying3
  a3 := Try.isAgg3
  z3 := Try.sizeOf3
  v3 := Try.zeroValue3
  t4 := Try.underlying4
  a4 := Try.isAgg4
  z4 := Try.sizeOf4
  v4 := Try.zeroValue4
  t5 := Try.underlying5
  a5 := Try.isAgg5
  z5 := Try.sizeOf5
  v5 := Try.zeroValue5
  t9 := Try.underlying9
  a9 := Try.isAgg9
  z9 := Try.sizeOf9
  v9 := Try.zeroValue9
  t31 := Try.underlying23
  a31 := Try.isAgg23
  z31 := Try.sizeOf23
  v31 := Try.zeroValue23
  t46 := Try.underlying112
  a46 := Try.isAgg112
  z46 := Try.sizeOf112
  v46 := Try.zeroValue112
  t51 := Try.underlying144
  a51 := Try.isAgg144
  z51 := Try.sizeOf144
  v51 := Try.zeroValue144
  t53 := Try.underlying146
  a53 := Try.isAgg146
  z53 := Try.sizeOf146
  v53 := Try.zeroValue146
  t131 := Try.underlying141
  a131 := Try.isAgg141
  z131 := Try.sizeOf141
  v131 := Try.zeroValue141
  t182 := Try.underlying135
  a182 := Try.isAgg135
  z182 := Try.sizeOf135
  v182 := Try.zeroValue135
  t183 := Try.underlying136
  a183 := Try.isAgg136
  z183 := Try.sizeOf136
  v183 := Try.zeroValue136
  t218 := Try.underlying155
  a218 := Try.isAgg155
  z218 := Try.sizeOf155
  v218 := Try.zeroValue155
  t222 := Try.underlying65
  a222 := Try.isAgg65
  z222 := Try.sizeOf65
  v222 := Try.zeroValue65
  t228 := Try.underlying167
  a228 := Try.isAgg167
  z228 := Try.sizeOf167
  v228 := Try.zeroValue167
  t229 := Try.underlying168
  a229 := Try.isAgg168
  z229 := Try.sizeOf168
  v229 := Try.zeroValue168 }
open Go.Sort Go.RowKit in
theorem Try.slices_Sort_string (blk off cap : Nat) (ss : List (List UInt8)) (w : World) (hH : Holds encStr w blk off ss.toArray) (hblk : blk < w.heap.size) (hsz : ss.length < 4611686018427387904) :
    Calls Try.prog 73 #[.slice (some ⟨blk, off, none⟩) ss.length cap] w fun e w' =>
      e = .returned (.tuple #[]) ∧ ∃ n os, w' = grow (putRow encStr (Sort.ahead w n) blk off (ss.mergeSort fun x y => decide (x ≤ y)).toArray) os := Any.slices_Sort_string Try.lays190 blk off cap ss w hH hblk hsz
open Go.RowKit Go.Sort in
theorem Try.slices_Sort_string_none (p : Option Addr) (cap : Nat) (w : World) :
    Calls Try.prog 73 #[.slice p 0 cap] w fun e w' => e = .returned (.tuple #[]) ∧ w' = w := Any.slices_Sort_string_none Try.lays190 p cap w
end Go.Proofs
