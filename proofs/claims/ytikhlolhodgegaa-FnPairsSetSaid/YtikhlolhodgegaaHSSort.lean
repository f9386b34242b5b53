/- Contracts of the library's functions, laid by the kit's lay-shelf at this seat's program. -/
import Derived.Shelf.Strings.Builder1
import Derived.Shelf.Small.Bits
import Derived.Shelf.Strings.BuilderF
import Derived.Shelf.Strings.BuilderK
import Derived.Shelf.Strings.BuilderRune
import Derived.Shelf.Utf8.AppendRunePlain
import Derived.Shelf.Strconv.Itoa0
import Derived.Shelf.Sort.Plain
import Derived.Ground.GgtProg
import Derived.Shelf.GgSortMore.Iface
import Derived.Shelf.GgSortMore.IfaceD
import Derived.Shelf.GgSortMore.IfacePart
import Derived.Shelf.GgSortMore.IfacePdq
import Derived.Shelf.GgSortMore.SortSort
import Derived.Shelf.Slices.In.SortNone
import Derived.Shelf.Slices.In.SortNone2
import Derived.Ground.GgsProg
import Derived.Shelf.SlSortFunc.Xorshift
import Derived.Shelf.SlSortIface.SiftDown
import Derived.Shelf.SlSortIface.HeapSort
import Derived.Shelf.SlSortIface.PartialInsertion
import Derived.Test.YtikhlolhodgegaaProg
set_option linter.unusedVariables false
set_option linter.unusedSimpArgs false
namespace Go.Proofs
open Go.Shelf
def Try.lays192_ren : Go.Shelf.Ren := ⟨fun | 192 => 84 | 190 => 98 | 125 => 89 | 258 => 112 | 128 => 102 | 129 => 103 | 302 => 120 | 303 => 121 | 304 => 122 | 305 => 123 | 306 => 124 | 307 => 125 | 308 => 126 | 309 => 127 | 310 => 128 | 333 => 130 | 329 => 131 | 330 => 132 | 334 => 133 | 335 => 134 | 336 => 135 | 344 => 136 | n => n, fun | 31 => 38 | 0 => 0 | 9 => 9 | 3 => 3 | 46 => 132 | 51 => 147 | 53 => 56 | 4 => 4 | 183 => 168 | 182 => 167 | 131 => 155 | 5 => 5 | 218 => 177 | 222 => 164 | 228 => 180 | 229 => 175 | n => n, fun | n => n⟩
theorem Try.lays192 : Go.Proofs.Lays.n192 Try.prog Try.lays192_ren := {
  mixed := by kernel_rfl
  f125 := Try.func89.trans (congrArg some (by kernel_rfl))
  f128 := Try.func102.trans (congrArg some (by kernel_rfl))
  f129 := Try.func103.trans (congrArg some (by kernel_rfl))
  f190 := Try.func98.trans (congrArg some (by kernel_rfl))
  f192 := Try.func84.trans (congrArg some (by kernel_rfl))
  f258 := Try.func112.trans (congrArg some (by kernel_rfl))
  f302 := Try.func120.trans (congrArg some (by kernel_rfl))
  f303 := Try.func121.trans (congrArg some (by kernel_rfl))
  f304 := Try.func122.trans (congrArg some (by kernel_rfl))
  f305 := Try.func123.trans (congrArg some (by kernel_rfl))
  f306 := Try.func124.trans (congrArg some (by kernel_rfl))
  f307 := Try.func125.trans (congrArg some (by kernel_rfl))
  f308 := Try.func126.trans (congrArg some (by kernel_rfl))
  f309 := Try.func127.trans (congrArg some (by kernel_rfl))
  f310 := Try.func128.trans (congrArg some (by kernel_rfl))
  f329 := Try.func131.trans (congrArg some (by kernel_rfl))
  f330 := Try.func132.trans (congrArg some (by kernel_rfl))
  f333 := Try.func130.trans (congrArg some (by kernel_rfl))
  f334 := Try.func133.trans (congrArg some (by kernel_rfl))
  f335 := Try.func134.trans (congrArg some (by kernel_rfl))
  f336 := Try.func135.trans (congrArg some (by kernel_rfl))
  f344 := Try.func136.trans (congrArg some (by kernel_rfl))
  t0 := Try.underlying0
  a0 := Try.isAgg0
  z0 := Try.sizeOf0
  v0 := Try.zeroValue0
  t3 := Try.underlying3
  a3 := Try.isAgg3
  z3 := Try.sizeOf3
  v3 := Try.zeroValue3
  t4 := Try.underlying4
  a4 := Try.isAgg4
  z4 := Try.sizeOf4
  v4 := Try.zeroValue4
  t5 := Try.underlying5
  a5 := Try.isAgg5
  z5 := Try.sizeOf5
  v5 := Try.zeroValue5
  t9 := Try.underlying9
  a9 := Try.isAgg9
  z9 := Try.sizeOf9
  v9 := Try.zeroValue9
  t31 := Try.underlying38
  a31 := Try.isAgg38
  z31 := Try.sizeOf38
  v31 := Try.zeroValue38
  t46 := Try.underlying132
  a46 := Try.isAgg132
  z46 := Try.sizeOf132
  v46 := Try.zeroValue132
  t51 := Try.underlying147
  a51 := Try.isAgg147
  z51 := Try.sizeOf147
  v51 := Try.zeroValue147
  t53 := Try.underlying56
  a53 := Try.isAgg56
  z53 := Try.sizeOf56
  v53 := Try.zeroValue56
  t131 := Try.underlying155
  a131 := Try.isAgg155
  z131 := Try.sizeOf155
  v131 := Try.zeroValue155
  t182 := Try.underlying167
  a182 := Try.isAgg167
  z182 := Try.sizeOf167
  v182 := Try.zeroValue167
  t183 := Try.underlying168
  a183 := Try.isAgg168
  z183 := Try.sizeOf168
  v183 := Try.zeroValue168
  t218 := Try.underlying177
  a218 := Try.isAgg177
  z218 := Try.sizeOf177
  v218 := Try.zeroValue177
  t222 := Try.underlying164
  a222 := Try.isAgg164
  z222 := Try.sizeOf164
  v222 := Try.zeroValue164
  t228 := Try.underlying180
  a228 := Try.isAgg180
  z228 := Try.sizeOf180
  v228 := Try.zeroValue180
  t229 := Try.underlying175
  a229 := Try.isAgg175
  z229 := Try.sizeOf175
  v229 := Try.zeroValue175 }
open Go.Sort Go.RowKit in
theorem Try.sort_Strings (blk off cap : Nat) (ss : List (List UInt8)) (w : World) (hH : Holds encStr w blk off ss.toArray) (hblk : blk < w.heap.size) (hsz : ss.length < 4611686018427387904) :
    Calls Try.prog 84 #[.slice (some ⟨blk, off, none⟩) ss.length cap] w fun e w' =>
      e = .returned (.tuple #[]) ∧ ∃ n os, w' = grow (putRow encStr (Sort.ahead w n) blk off (ss.mergeSort fun x y => decide (x ≤ y)).toArray) os := Any.sort_Strings Try.lays192 blk off cap ss w hH hblk hsz
def Try.laysGt11_ren : Go.Shelf.Ren := ⟨fun | 11 => 74 | 17 => 89 | 18 => 90 | 31 => 102 | 32 => 103 | 33 => 104 | 34 => 105 | 35 => 106 | 36 => 107 | 37 => 108 | 38 => 109 | 39 => 110 | 40 => 111 | 43 => 115 | 44 => 116 | 45 => 117 | 46 => 118 | 47 => 119 | 50 => 129 | n => n, fun | 45 => 129 | 3 => 3 | 4 => 4 | 47 => 132 | 0 => 0 | 56 => 147 | 58 => 56 | 61 => 151 | 60 => 150 | 65 => 155 | 5 => 5 | 9 => 9 | 67 => 161 | 71 => 164 | 73 => 174 | 74 => 175 | 43 => 130 | 26 => 79 | 38 => 160 | n => n, fun | n => n⟩
theorem Try.laysGt11 : Go.Proofs.LaysGt.n11 Try.prog Try.laysGt11_ren := {
  mixed := by kernel_rfl
  f11 := Try.func74.trans (congrArg some (by kernel_rfl))
  f17 := Try.func89.trans (congrArg some (by kernel_rfl))
  f18 := Try.func90.trans (congrArg some (by kernel_rfl))
  f31 := Try.func102.trans (congrArg some (by kernel_rfl))
  f32 := Try.func103.trans (congrArg some (by kernel_rfl))
  f33 := Try.func104.trans (congrArg some (by kernel_rfl))
  f34 := Try.func105.trans (congrArg some (by kernel_rfl))
  f35 := Try.func106.trans (congrArg some (by kernel_rfl))
  f36 := Try.func107.trans (congrArg some (by kernel_rfl))
  f37 := Try.func108.trans (congrArg some (by kernel_rfl))
  f38 := Try.func109.trans (congrArg some (by kernel_rfl))
  f39 := Try.func110.trans (congrArg some (by kernel_rfl))
  f40 := Try.func111.trans (congrArg some (by kernel_rfl))
  f43 := Try.func115.trans (congrArg some (by kernel_rfl))
  f44 := Try.func116.trans (congrArg some (by kernel_rfl))
  f45 := Try.func117.trans (congrArg some (by kernel_rfl))
  f46 := Try.func118.trans (congrArg some (by kernel_rfl))
  f47 := Try.func119.trans (congrArg some (by kernel_rfl))
  f50 := Try.func129.trans (congrArg some (by kernel_rfl))
  t0 := Try.underlying0
  a0 := Try.isAgg0
  z0 := Try.sizeOf0
  v0 := Try.zeroValue0
  i0 := by kernel_rfl
  t3 := Try.underlying3
  a3 := Try.isAgg3
  z3 := Try.sizeOf3
  v3 := Try.zeroValue3
  i3 := by kernel_rfl
  t4 := Try.underlying4
  a4 := Try.isAgg4
  z4 := Try.sizeOf4
  v4 := Try.zeroValue4
  i4 := by kernel_rfl
  t5 := Try.underlying5
  a5 := Try.isAgg5
  z5 := Try.sizeOf5
  v5 := Try.zeroValue5
  i5 := by kernel_rfl
  t9 := Try.underlying9
  a9 := Try.isAgg9
  z9 := Try.sizeOf9
  v9 := Try.zeroValue9
  i9 := by kernel_rfl
  t26 := Try.underlying79
  a26 := Try.isAgg79
  z26 := Try.sizeOf79
  v26 := Try.zeroValue79
  i26 := by kernel_rfl
  t38 := Try.underlying160
  a38 := Try.isAgg160
  z38 := Try.sizeOf160
  v38 := Try.zeroValue160
  i38 := by kernel_rfl
  t43 := Try.underlying130
  a43 := Try.isAgg130
  z43 := Try.sizeOf130
  v43 := Try.zeroValue130
  i43 := by kernel_rfl
  t45 := Try.underlying129
  a45 := Try.isAgg129
  z45 := Try.sizeOf129
  v45 := Try.zeroValue129
  i45 := by kernel_rfl
  t47 := Try.underlying132
  a47 := Try.isAgg132
  z47 := Try.sizeOf132
  v47 := Try.zeroValue132
  i47 := by kernel_rfl
  t56 := Try.underlying147
  a56 := Try.isAgg147
  z56 := Try.sizeOf147
  v56 := Try.zeroValue147
  i56 := by kernel_rfl
  t58 := Try.underlying56
  a58 := Try.isAgg56
  z58 := Try.sizeOf56
  v58 := Try.zeroValue56
  i58 := by kernel_rfl
  t60 := Try.underlying150
  a60 := Try.isAgg150
  z60 := Try.sizeOf150
  v60 := Try.zeroValue150
  i60 := by kernel_rfl
  t61 := Try.underlying151
  a61 := Try.isAgg151
  z61 := Try.sizeOf151
  v61 := Try.zeroValue151
  i61 := by kernel_rfl
  t65 := Try.underlying155
  a65 := Try.isAgg155
  z65 := Try.sizeOf155
  v65 := Try.zeroValue155
  i65 := by kernel_rfl
  t67 := Try.underlying161
  a67 := Try.isAgg161
  z67 := Try.sizeOf161
  v67 := Try.zeroValue161
  i67 := by kernel_rfl
  t71 := Try.underlying164
  a71 := Try.isAgg164
  z71 := Try.sizeOf164
  v71 := Try.zeroValue164
  i71 := by kernel_rfl
  t73 := Try.underlying174
  a73 := Try.isAgg174
  z73 := Try.sizeOf174
  v73 := Try.zeroValue174
  i73 := by kernel_rfl
  t74 := Try.underlying175
  a74 := Try.isAgg175
  z74 := Try.sizeOf175
  v74 := Try.zeroValue175
  i74 := by kernel_rfl }
open Go.RowKit Go.Lib Go.Sort in
theorem Try.sort_Sort_tiny {α : Type} [Inhabited α] (T : TypeId) (rv : Value) (gn : Nat) (rN : Reaches Try.prog T rv "Len" gn) (n : Nat) (hn : n ≤ 1) (w : World) (hlen : LenM Try.prog gn rv n w) :
    Calls Try.prog 74 #[.iface T rv] w fun e w' => e = .returned (.tuple #[]) ∧ ∃ q, w' = w.drewN q := Any.sort_Sort_tiny Try.laysGt11 T rv gn rN n hn w hlen
open Go.RowKit Go.Lib Go.Sort in
/-- **sort.Sort, IN THE DOCUMENTATION's OWN TERMS ("Sort sorts data in ascending order as determined by the Less method. .. The sort is not guaranteed to be stable"): A PERMUTATION OF WHAT THE ROW HELD, SORTED BY 'lt'.** (LAID: no walk: one application.) -/
theorem Try.sort_Sort_sorted {α : Type} [Inhabited α] (T : TypeId) (rv : Value) (gn gl gs : Nat) (rN : Reaches Try.prog T rv "Len" gn) (rL : Reaches Try.prog T rv "Less" gl) (rS : Reaches Try.prog T rv "Swap" gs) (enc : α → Value) (lt : α → α → Bool) (hO : SWO lt) (blk off : Nat) (d : Array α) (h2 : 2 ≤ d.size) (hsz : d.size < 4611686018427387904) (w : World) (hlen : LenM Try.prog gn rv d.size w) (hless : LessM Try.prog gl rv enc lt blk off d.size w) (hswap : SwapM Try.prog gs rv enc blk off d.size) (hH : Holds enc w blk off d) (hblk : blk < w.heap.size) :
    Calls Try.prog 74 #[.iface T rv] w fun e w' => e = .returned (.tuple #[]) ∧ ∃ d' n os, PermIn 0 d.size d d' ∧ SortedIn lt 0 d.size d' ∧ w' = grow (putRow enc (Sort.ahead w n) blk off d') os := Any.sort_Sort_sorted Try.laysGt11 T rv gn gl gs rN rL rS enc lt hO blk off d h2 hsz w hlen hless hswap hH hblk
open Go.RowKit Go.Sort in
/-- .. and plain. (LAID: no walk: one application.) -/
theorem Try.sort_Strings_none (p : Option Addr) (cap : Nat) (w : World) :
    Calls Try.prog 84 #[.slice p 0 cap] w fun e w' => e = .returned (.tuple #[]) ∧ w' = w := Any.sort_Strings_none Try.lays192 p cap w
end Go.Proofs
