/- Contracts of the library's functions, laid by the kit's lay-shelf at this seat's program. -/
import Derived.Shelf.Sort.Plain
import Derived.Shelf.Slices.In.SortNone
import Derived.Shelf.Slices.In.SortNone2
import Derived.Test.YtikhlolhodgegaaProg
set_option linter.unusedVariables false
set_option linter.unusedSimpArgs false
namespace Go.Proofs
open Go.Shelf
def Try.lays192_ren : Go.Shelf.Ren := ⟨fun | 192 => 84 | 190 => 98 | 125 => 89 | 258 => 112 | 128 => 102 | 129 => 103 | 302 => 120 | 303 => 121 | 304 => 122 | 305 => 123 | 306 => 124 | 307 => 125 | 308 => 126 | 309 => 127 | 310 => 128 | 333 => 130 | 329 => 131 | 330 => 132 | 334 => 133 | 335 => 134 | 336 => 135 | 344 => 136 | n => n, fun | 31 => 38 | 0 => 0 | 9 => 9 | 3 => 3 | 46 => 132 | 51 => 147 | 53 => 56 | 4 => 4 | 183 => 168 | 182 => 167 | 131 => 155 | 5 => 5 | 218 => 177 | 222 => 164 | 228 => 180 | 229 => 175 | n => n, fun | n => n⟩
theorem Try.lays192 : Go.Proofs.Lays.n192 Try.prog Try.lays192_ren := {
  mixed := by kernel_rfl
  f125 := Try.func89.trans (congrArg some (by kernel_rfl))
  f128 := Try.func102.trans (congrArg some (by kernel_rfl))
  f129 := Try.func103.trans (congrArg some (by kernel_rfl))
  f190 := Try.func98.trans (congrArg some (by kernel_rfl))
  f192 := Try.func84.trans (congrArg some (by kernel_rfl))
  f258 := Try.func112.trans (congrArg some (by kernel_rfl))
  f302 := Try.func120.trans (congrArg some (by kernel_rfl))
  f303 := Try.func121.trans (congrArg some (by kernel_rfl))
  f304 := Try.func122.trans (congrArg some (by kernel_rfl))
  f305 := Try.func123.trans (congrArg some (by kernel_rfl))
  f306 := Try.func124.trans (congrArg some (by kernel_rfl))
  f307 := Try.func125.trans (congrArg some (by kernel_rfl))
  f308 := Try.func126.trans (congrArg some (by kernel_rfl))
  f309 := Try.func127.trans (congrArg some (by kernel_rfl))
  f310 := Try.func128.trans (congrArg some (by kernel_rfl))
  f329 := Try.func131.trans (congrArg some (by kernel_rfl))
  f330 := Try.func132.trans (congrArg some (by kernel_rfl))
  f333 := Try.func130.trans (congrArg some (by kernel_rfl))
  f334 := Try.func133.trans (congrArg some (by kernel_rfl))
  f335 := Try.func134.trans (congrArg some (by kernel_rfl))
  f336 := Try.func135.trans (congrArg some (by kernel_rfl))
  f344 := Try.func136.trans (congrArg some (by kernel_rfl))
  t0 := Try.underlying0
  a0 := Try.isAgg0
  z0 := Try.sizeOf0
  v0 := Try.zeroValue0
  t3 := Try.underlying3
  a3 := Try.isAgg3
  z3 := Try.sizeOf3
  v3 := Try.zeroValue3
  t4 := Try.underlying4
  a4 := Try.isAgg4
  z4 := Try.sizeOf4
  v4 := Try.zeroValue4
  t5 := Try.underlying5
  a5 := Try.isAgg5
  z5 := Try.sizeOf5
  v5 := Try.zeroValue5
  t9 := Try.underlying9
  a9 := Try.isAgg9
  z9 := Try.sizeOf9
  v9 := Try.zeroValue9
  t31 := Try.underlying38
  a31 := Try.isAgg38
  z31 := Try.sizeOf38
  v31 := Try.zeroValue38
  t46 := Try.underlying132
  a46 := Try.isAgg132
  z46 := Try.sizeOf132
  v46 := Try.zeroValue132
  t51 := Try.underlying147
  a51 := Try.isAgg147
  z51 := Try.sizeOf147
  v51 := Try.zeroValue147
  t53 := Try.underlying56
  a53 := Try.isAgg56
  z53 := Try.sizeOf56
  v53 := Try.zeroValue56
  t131 := Try.underlying155
  a131 := Try.isAgg155
  z131 := Try.sizeOf155
  v131 := Try.zeroValue155
  t182 := Try.underlying167
  a182 := Try.isAgg167
  z182 := Try.sizeOf167
  v182 := Try.zeroValue167
  t183 := Try.underlying168
  a183 := Try.isAgg168
  z183 := Try.sizeOf168
  v183 := Try.zeroValue168
  t218 := Try.underlying177
  a218 := Try.isAgg177
  z218 := Try.sizeOf177
  v218 := Try.zeroValue177
  t222 := Try.underlying164
  a222 := Try.isAgg164
  z222 := Try.sizeOf164
  v222 := Try.zeroValue164
  t228 := Try.underlying180
  a228 := Try.isAgg180
  z228 := Try.sizeOf180
  v228 := Try.zeroValue180
  t229 := Try.underlying175
  a229 := Try.isAgg175
  z229 := Try.sizeOf175
  v229 := Try.zeroValue175 }
open Go.Sort Go.RowKit in
theorem Try.sort_Strings (blk off cap : Nat) (ss : List (List UInt8)) (w : World) (hH : Holds encStr w blk off ss.toArray) (hblk : blk < w.heap.size) (hsz : ss.length < 4611686018427387904) :
    Calls Try.prog 84 #[.slice (some ⟨blk, off, none⟩) ss.length cap] w fun e w' =>
      e = .returned (.tuple #[]) ∧ ∃ n os, w' = grow (putRow encStr (Sort.ahead w n) blk off (ss.mergeSort fun x y => decide (x ≤ y)).toArray) os := Any.sort_Strings Try.lays192 blk off cap ss w hH hblk hsz
open Go.RowKit Go.Sort in
/-- .. and plain. (LAID: no walk: one application.) -/
theorem Try.sort_Strings_none (p : Option Addr) (cap : Nat) (w : World) :
    Calls Try.prog 84 #[.slice p 0 cap] w fun e w' => e = .returned (.tuple #[]) ∧ w' = w := Any.sort_Strings_none Try.lays192 p cap w
end Go.Proofs
