/- What a row's listed variables say of the two tables of unicode/utf8, and that they stay. No condition. Contracts of the library's functions, laid by the kit's lay-shelf at this seat's program. What a row's listed variables say of the tables that a lexer reads: those of unicode/utf8 and the white space of package unicode. No condition. What a row's listed variables say of the tables that a lexer reads. No condition. How many bytes the model's decoder takes: at least one, and no more than there are. No condition. -/
import Derived.Test.YtnnhehlieakedaaGreatDoorHKinds
import Derived.Lib.LaidU8T
import Derived.MakeChecks
import Derived.Shelf.Small.Utf8
import Derived.Shelf.Unicode.Latin
import Derived.Shelf.Unicode.DecodeSlow
import Derived.Shelf.Unicode.DecodeAny
import Derived.Shelf.Unicode.Is16White
import Derived.Shelf.Unicode.IsSpaceAny
import Derived.Shelf.Unicode.Is16Any
import Derived.Shelf.Unicode.Is32Any
import Derived.Shelf.Unicode.ExclAny
import Derived.Test.YtnnhehlieakedaaGreatDoorProg
import Derived.Lib.LaidU8
namespace Go.Proofs.YtnnhehlieakedaaGreatDoor.Q
open Go.RowKit Go.Lib Go.Shelf
/-- The two tables of unicode/utf8 as the library's text lays them. -/
def TBu (w : World) : Prop := Lib.Utf8Tabs 10 11 w
theorem TBu.below {w w' : World} (h : TBu w) (hb : Below w.heap.size w w') : TBu w' := by
  have k : ∀ a v, w.cell? a = some v → w'.cell? a = some v := fun a v h => (hb.cell (World.block_lt_of_cell? _ _ h)).trans h
  exact ⟨fun c hc => k _ _ (h.1 c hc), fun i hi => ⟨k _ _ (h.2 i hi).1, k _ _ (h.2 i hi).2⟩⟩
def renU : Ren where
  f := fun n => n
  t := fun n => if n = 5 then 5 else if n = 119 then 220 else if n = 138 then 222 else if n = 139 then 223 else n
  g := fun n => if n = 3 then 10 else if n = 4 then 11 else n
theorem TBu.of_laid {l : List (String × DataW Unit)} {w : World} (h : laidMetH Tryz.prog l w) (hp : (l.all fun x => x.2.handleName?.isNone) = true) (i j : Nat) (hm : l[i]? = some ("unicode/utf8.first", firstData)) (hn : l[j]? = some ("unicode/utf8.acceptRanges", acceptData)) : TBu w := by
  rw [MakeChecks.laidMetH_plain _ _ _ hp] at h
  exact utf8Tabs_of_readsT (P := Tryz.prog) (ρ := renU) ⟨by kernel_rfl, by kernel_rfl, by kernel_rfl, by kernel_rfl⟩ ⟨by kernel_rfl, by kernel_rfl, by kernel_rfl, by kernel_rfl, by kernel_rfl, by kernel_rfl, by kernel_rfl⟩
    (Go.Lib.laidMet.reads h (List.mem_of_getElem? hm)) (Go.Lib.laidMet.reads h (List.mem_of_getElem? hn))
end Go.Proofs.YtnnhehlieakedaaGreatDoor.Q
namespace Go.Proofs
open Go.Shelf
def Tryz.lays199_ren : Go.Shelf.Ren := ⟨fun | 199 => 76 | 261 => 94 | 311 => 119 | 312 => 120 | n => n, fun | 21 => 21 | 4 => 4 | 51 => 148 | 141 => 150 | 0 => 0 | 196 => 183 | 193 => 180 | 3 => 3 | 198 => 186 | 49 => 184 | 194 => 181 | 201 => 189 | 226 => 216 | 46 => 137 | 227 => 217 | n => n, fun | 6 => 2 | n => n⟩
theorem Tryz.lays199 : Go.Proofs.Lays.n199 Tryz.prog Tryz.lays199_ren := {
  mixed := by kernel_rfl
  f199 := Tryz.func76.trans (congrArg some (by kernel_rfl))
  f261 := Tryz.func94.trans (congrArg some (by kernel_rfl))
  f311 := Tryz.func119.trans (congrArg some (by kernel_rfl))
  f312 := Tryz.func120.trans (congrArg some (by kernel_rfl))
  t0 := Tryz.underlying0
  a0 := Tryz.isAgg0
  z0 := Tryz.sizeOf0
  v0 := Tryz.zeroValue0
  t3 := Tryz.underlying3
  a3 := Tryz.isAgg3
  z3 := Tryz.sizeOf3
  v3 := Tryz.zeroValue3
  t4 := Tryz.underlying4
  a4 := Tryz.isAgg4
  z4 := Tryz.sizeOf4
  v4 := Tryz.zeroValue4
  t21 := Tryz.underlying21
  a21 := Tryz.isAgg21
  z21 := Tryz.sizeOf21
  v21 := Tryz.zeroValue21
  t46 := Tryz.underlying137
  a46 := Tryz.isAgg137
  z46 := Tryz.sizeOf137
  v46 := Tryz.zeroValue137
  t49 := Tryz.underlying184
  a49 := Tryz.isAgg184
  z49 := Tryz.sizeOf184
  v49 := Tryz.zeroValue184
  t51 := Tryz.underlying148
  a51 := Tryz.isAgg148
  z51 := Tryz.sizeOf148
  v51 := Tryz.zeroValue148
  t141 := Tryz.underlying150
  a141 := Tryz.isAgg150
  z141 := Tryz.sizeOf150
  v141 := Tryz.zeroValue150
  t193 := Tryz.underlying180
  a193 := Tryz.isAgg180
  z193 := Tryz.sizeOf180
  v193 := Tryz.zeroValue180
  t194 := Tryz.underlying181
  a194 := Tryz.isAgg181
  z194 := Tryz.sizeOf181
  v194 := Tryz.zeroValue181
  t196 := Tryz.underlying183
  a196 := Tryz.isAgg183
  z196 := Tryz.sizeOf183
  v196 := Tryz.zeroValue183
  t198 := Tryz.underlying186
  a198 := Tryz.isAgg186
  z198 := Tryz.sizeOf186
  v198 := Tryz.zeroValue186
  t201 := Tryz.underlying189
  a201 := Tryz.isAgg189
  z201 := Tryz.sizeOf189
  v201 := Tryz.zeroValue189
  t226 := Tryz.underlying216
  a226 := Tryz.isAgg216
  z226 := Tryz.sizeOf216
  v226 := Tryz.zeroValue216
  t227 := Tryz.underlying217
  a227 := Tryz.isAgg217
  z227 := Tryz.sizeOf217
  v227 := Tryz.zeroValue217
  g6 := by kernel_rfl }
def Tryz.lays197_ren : Go.Shelf.Ren := ⟨fun | 197 => 107 | 260 => 127 | n => n, fun | 9 => 9 | 21 => 21 | 3 => 3 | 4 => 4 | 5 => 5 | 105 => 162 | 119 => 220 | 0 => 0 | 46 => 137 | 139 => 223 | 138 => 222 | n => n, fun | 3 => 10 | 4 => 11 | n => n⟩
theorem Tryz.lays197 : Go.Proofs.Lays.n197 Tryz.prog Tryz.lays197_ren := {
  mixed := by kernel_rfl
  f197 := Tryz.func107.trans (congrArg some (by kernel_rfl))
  f260 := Tryz.func127.trans (congrArg some (by kernel_rfl))
  t0 := Tryz.underlying0
  a0 := Tryz.isAgg0
  z0 := Tryz.sizeOf0
  v0 := Tryz.zeroValue0
  t3 := Tryz.underlying3
  a3 := Tryz.isAgg3
  z3 := Tryz.sizeOf3
  v3 := Tryz.zeroValue3
  t4 := Tryz.underlying4
  a4 := Tryz.isAgg4
  z4 := Tryz.sizeOf4
  v4 := Tryz.zeroValue4
  t5 := Tryz.underlying5
  a5 := Tryz.isAgg5
  z5 := Tryz.sizeOf5
  v5 := Tryz.zeroValue5
  t9 := Tryz.underlying9
  a9 := Tryz.isAgg9
  z9 := Tryz.sizeOf9
  v9 := Tryz.zeroValue9
  t21 := Tryz.underlying21
  a21 := Tryz.isAgg21
  z21 := Tryz.sizeOf21
  v21 := Tryz.zeroValue21
  t46 := Tryz.underlying137
  a46 := Tryz.isAgg137
  z46 := Tryz.sizeOf137
  v46 := Tryz.zeroValue137
  t105 := Tryz.underlying162
  a105 := Tryz.isAgg162
  z105 := Tryz.sizeOf162
  v105 := Tryz.zeroValue162
  t119 := Tryz.underlying220
  a119 := Tryz.isAgg220
  z119 := Tryz.sizeOf220
  t138 := Tryz.underlying222
  a138 := Tryz.isAgg222
  z138 := Tryz.sizeOf222
  v138 := Tryz.zeroValue222
  t139 := Tryz.underlying223
  a139 := Tryz.isAgg223
  z139 := Tryz.sizeOf223
  v139 := Tryz.zeroValue223
  g3 := by kernel_rfl
  g4 := by kernel_rfl }
open Go.RowKit Go.Lib in
/-- **unicode/utf8.DecodeRuneInString AT EVERY STRING.** (LAID: no walk: one application.) -/
theorem Tryz.utf8_DecodeRuneInString (s : ByteArray) (w : World) (hT : Lib.Utf8Tabs 10 11 w) :
    Calls Tryz.prog 107 #[.string s] w fun e w' => e = .returned (.tuple #[.int .i32 (Lib.decodeGo s).1, .int .i64 (Lib.decodeGo s).2]) ∧ Below w.heap.size w w' := Any.utf8_DecodeRuneInString Tryz.lays197 s w hT
open Go.RowKit Go.Lib in
/-- **unicode.IsSpace AT EVERY int32.** (LAID: no walk: one application.) -/
theorem Tryz.unicode_IsSpace_any (r : Int) (w : World) (hlo : -2147483648 ≤ r) (hhi : r ≤ 2147483647) (hW : Lib.WhiteTab 2 w) :
    Calls Tryz.prog 76 #[.int .i32 r] w fun e w' => e = .returned (.bool (Lib.isSpaceZ r)) ∧ Below w.heap.size w w' := Any.unicode_IsSpace_any Tryz.lays199 r w hlo hhi hW
end Go.Proofs
namespace Go.Proofs.YtnnhehlieakedaaGreatDoor.Q
open Go.RowKit Go.Lib Go.Shelf
def TBw (w : World) : Prop := Lib.WhiteTab 2 w
abbrev TBl (w : World) : Prop := TBu w ∧ TBw w
end Go.Proofs.YtnnhehlieakedaaGreatDoor.Q
namespace Go.Proofs.YtnnhehlieakedaaGreatDoor.Q
open Go.RowKit Go.Lib Go.Shelf
theorem TBl.of_laid {l : List (String × DataW Unit)} {w : World} (h : laidMetH Tryz.prog l w) (hp : (l.all fun x => x.2.handleName?.isNone) = true) (i j k : Nat) (hm : l[i]? = some ("unicode/utf8.first", firstData)) (hn : l[j]? = some ("unicode/utf8.acceptRanges", acceptData)) (ho : l[k]? = some ("unicode.White_Space", whiteData)) : TBl w := by
  refine ⟨TBu.of_laid h hp i j hm hn, ?_⟩
  rw [MakeChecks.laidMetH_plain _ _ _ hp] at h
  exact whiteTab_of_reads Tryz.lays199 ⟨by kernel_rfl, by kernel_rfl, by kernel_rfl, by kernel_rfl, by kernel_rfl, by kernel_rfl, by kernel_rfl, by kernel_rfl⟩ (Go.Lib.laidMet.reads h (List.mem_of_getElem? ho))
end Go.Proofs.YtnnhehlieakedaaGreatDoor.Q
namespace Go.Proofs.YtnnhehlieakedaaGreatDoor.Q
open Go.RowKit Go.Proofs.YtnnhehlieakedaaGreatDoorW.PrintWords
theorem decode_wide (s : ByteArray) (pos : Nat) : 1 ≤ (Utf8.decode s pos).2 := by
  unfold Utf8.decode
  dsimp only
  (repeat' split) <;> simp
theorem decode_fits (s : ByteArray) (pos : Nat) (h : pos < s.size) : 0 < (Utf8.decode s pos).2 ∧ pos + (Utf8.decode s pos).2 ≤ s.size := by
  refine ⟨decode_wide s pos, ?_⟩
  unfold Utf8.decode
  dsimp only
  (repeat' split) <;> simp_all <;> omega
end Go.Proofs.YtnnhehlieakedaaGreatDoor.Q
