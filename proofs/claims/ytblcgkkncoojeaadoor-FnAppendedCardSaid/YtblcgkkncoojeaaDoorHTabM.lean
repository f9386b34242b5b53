/- What a row's listed variables say of the two tables of unicode/utf8, and that they stay. No condition. Contracts of the library's functions, laid by the kit's lay-shelf at this seat's program. What a row's listed variables say of the tables that a lexer reads: those of unicode/utf8 and the white space of package unicode. No condition. What a row's listed variables say of the tables that a lexer reads. No condition. How many bytes the model's decoder takes: at least one, and no more than there are. No condition. -/
import Derived.Test.YtblcgkkncoojeaaDoorHKinds
import Derived.Lib.LaidU8T
import Derived.MakeChecks
import Derived.Shelf.Small.Utf8
import Derived.Shelf.Unicode.Latin
import Derived.Shelf.Unicode.DecodeSlow
import Derived.Shelf.Unicode.DecodeAny
import Derived.Shelf.Unicode.Is16White
import Derived.Shelf.Unicode.IsSpaceAny
import Derived.Shelf.Unicode.Is16Any
import Derived.Shelf.Unicode.Is32Any
import Derived.Shelf.Unicode.ExclAny
import Derived.Test.YtblcgkkncoojeaaDoorProg
import Derived.Lib.LaidU8
set_option linter.unusedVariables false
set_option linter.unusedSimpArgs false
namespace Go.Proofs.YtblcgkkncoojeaaDoor.Q
open Go.RowKit Go.Lib Go.Shelf
/-- The two tables of unicode/utf8 as the library's text lays them. -/
def TBu (w : World) : Prop := Lib.Utf8Tabs 9 10 w
theorem TBu.below {w w' : World} (h : TBu w) (hb : Below w.heap.size w w') : TBu w' := by
  have k : ∀ a v, w.cell? a = some v → w'.cell? a = some v := fun a v h => (hb.cell (World.block_lt_of_cell? _ _ h)).trans h
  exact ⟨fun c hc => k _ _ (h.1 c hc), fun i hi => ⟨k _ _ (h.2 i hi).1, k _ _ (h.2 i hi).2⟩⟩
def renU : Ren where
  f := fun n => n
  t := fun n => if n = 5 then 5 else if n = 119 then 139 else if n = 138 then 142 else if n = 139 then 143 else n
  g := fun n => if n = 3 then 9 else if n = 4 then 10 else n
theorem TBu.of_laid {l : List (String × DataW Unit)} {w : World} (h : laidMetH Tryd.prog l w) (hp : (l.all fun x => x.2.handleName?.isNone) = true) (i j : Nat) (hm : l[i]? = some ("unicode/utf8.first", firstData)) (hn : l[j]? = some ("unicode/utf8.acceptRanges", acceptData)) : TBu w := by
  rw [MakeChecks.laidMetH_plain _ _ _ hp] at h
  exact utf8Tabs_of_readsT (P := Tryd.prog) (ρ := renU) ⟨by kernel_rfl, by kernel_rfl, by kernel_rfl, by kernel_rfl⟩ ⟨by kernel_rfl, by kernel_rfl, by kernel_rfl, by kernel_rfl, by kernel_rfl, by kernel_rfl, by kernel_rfl⟩
    (Go.Lib.laidMet.reads h (List.mem_of_getElem? hm)) (Go.Lib.laidMet.reads h (List.mem_of_getElem? hn))
end Go.Proofs.YtblcgkkncoojeaaDoor.Q
namespace Go.Proofs
open Go.Shelf
def Tryd.lays199_ren : Go.Shelf.Ren := ⟨fun | 199 => 33 | 261 => 46 | 311 => 58 | 312 => 59 | n => n, fun | 21 => 21 | 4 => 4 | 51 => 101 | 141 => 103 | 0 => 0 | 196 => 118 | 193 => 115 | 3 => 3 | 198 => 121 | 49 => 119 | 194 => 116 | 201 => 124 | 226 => 144 | 46 => 140 | 227 => 145 | n => n, fun | 6 => 1 | n => n⟩
theorem Tryd.lays199 : Go.Proofs.Lays.n199 Tryd.prog Tryd.lays199_ren := {
  mixed := by kernel_rfl
  f199 := Tryd.func33.trans (congrArg some (by kernel_rfl))
  f261 := Tryd.func46.trans (congrArg some (by kernel_rfl))
  f311 := Tryd.func58.trans (congrArg some (by kernel_rfl))
  f312 := Tryd.func59.trans (congrArg some (by kernel_rfl))
  t0 := Tryd.underlying0
  a0 := Tryd.isAgg0
  z0 := Tryd.sizeOf0
  v0 := Tryd.zeroValue0
  t3 := Tryd.underlying3
  a3 := Tryd.isAgg3
  z3 := Tryd.sizeOf3
  v3 := Tryd.zeroValue3
  t4 := Tryd.underlying4
  a4 := Tryd.isAgg4
  z4 := Tryd.sizeOf4
  v4 := Tryd.zeroValue4
  t21 := Tryd.underlying21
  a21 := Tryd.isAgg21
  z21 := Tryd.sizeOf21
  v21 := Tryd.zeroValue21
  t46 := Tryd.underlying140
  a46 := Tryd.isAgg140
  z46 := Tryd.sizeOf140
  v46 := Tryd.zeroValue140
  t49 := Tryd.underlying119
  a49 := Tryd.isAgg119
  z49 := Tryd.sizeOf119
  v49 := Tryd.zeroValue119
  t51 := Tryd.underlying101
  a51 := Tryd.isAgg101
  z51 := Tryd.sizeOf101
  v51 := Tryd.zeroValue101
  t141 := Tryd.underlying103
  a141 := Tryd.isAgg103
  z141 := Tryd.sizeOf103
  v141 := Tryd.zeroValue103
  t193 := Tryd.underlying115
  a193 := Tryd.isAgg115
  z193 := Tryd.sizeOf115
  v193 := Tryd.zeroValue115
  t194 := Tryd.underlying116
  a194 := Tryd.isAgg116
  z194 := Tryd.sizeOf116
  v194 := Tryd.zeroValue116
  t196 := Tryd.underlying118
  a196 := Tryd.isAgg118
  z196 := Tryd.sizeOf118
  v196 := Tryd.zeroValue118
  t198 := Tryd.underlying121
  a198 := Tryd.isAgg121
  z198 := Tryd.sizeOf121
  v198 := Tryd.zeroValue121
  t201 := Tryd.underlying124
  a201 := Tryd.isAgg124
  z201 := Tryd.sizeOf124
  v201 := Tryd.zeroValue124
  t226 := Tryd.underlying144
  a226 := Tryd.isAgg144
  z226 := Tryd.sizeOf144
  v226 := Tryd.zeroValue144
  t227 := Tryd.underlying145
  a227 := Tryd.isAgg145
  z227 := Tryd.sizeOf145
  v227 := Tryd.zeroValue145
  g6 := by kernel_rfl }
def Tryd.lays197_ren : Go.Shelf.Ren := ⟨fun | 197 => 42 | 260 => 56 | n => n, fun | 9 => 9 | 21 => 21 | 3 => 3 | 4 => 4 | 5 => 5 | 105 => 94 | 119 => 139 | 0 => 0 | 46 => 140 | 139 => 143 | 138 => 142 | n => n, fun | 3 => 9 | 4 => 10 | n => n⟩
theorem Tryd.lays197 : Go.Proofs.Lays.n197 Tryd.prog Tryd.lays197_ren := {
  mixed := by kernel_rfl
  f197 := Tryd.func42.trans (congrArg some (by kernel_rfl))
  f260 := Tryd.func56.trans (congrArg some (by kernel_rfl))
  t0 := Tryd.underlying0
  a0 := Tryd.isAgg0
  z0 := Tryd.sizeOf0
  v0 := Tryd.zeroValue0
  t3 := Tryd.underlying3
  a3 := Tryd.isAgg3
  z3 := Tryd.sizeOf3
  v3 := Tryd.zeroValue3
  t4 := Tryd.underlying4
  a4 := Tryd.isAgg4
  z4 := Tryd.sizeOf4
  v4 := Tryd.zeroValue4
  t5 := Tryd.underlying5
  a5 := Tryd.isAgg5
  z5 := Tryd.sizeOf5
  v5 := Tryd.zeroValue5
  t9 := Tryd.underlying9
  a9 := Tryd.isAgg9
  z9 := Tryd.sizeOf9
  v9 := Tryd.zeroValue9
  t21 := Tryd.underlying21
  a21 := Tryd.isAgg21
  z21 := Tryd.sizeOf21
  v21 := Tryd.zeroValue21
  t46 := Tryd.underlying140
  a46 := Tryd.isAgg140
  z46 := Tryd.sizeOf140
  v46 := Tryd.zeroValue140
  t105 := Tryd.underlying94
  a105 := Tryd.isAgg94
  z105 := Tryd.sizeOf94
  v105 := Tryd.zeroValue94
  t119 := Tryd.underlying139
  a119 := Tryd.isAgg139
  z119 := Tryd.sizeOf139
  t138 := Tryd.underlying142
  a138 := Tryd.isAgg142
  z138 := Tryd.sizeOf142
  v138 := Tryd.zeroValue142
  t139 := Tryd.underlying143
  a139 := Tryd.isAgg143
  z139 := Tryd.sizeOf143
  v139 := Tryd.zeroValue143
  g3 := by kernel_rfl
  g4 := by kernel_rfl }
open Go.RowKit Go.Lib in
/-- **unicode/utf8.DecodeRuneInString AT EVERY STRING.** (LAID: no walk: one application.) -/
theorem Tryd.utf8_DecodeRuneInString (s : ByteArray) (w : World) (hT : Lib.Utf8Tabs 9 10 w) :
    Calls Tryd.prog 42 #[.string s] w fun e w' => e = .returned (.tuple #[.int .i32 (Lib.decodeGo s).1, .int .i64 (Lib.decodeGo s).2]) ∧ Below w.heap.size w w' := Any.utf8_DecodeRuneInString Tryd.lays197 s w hT
open Go.RowKit Go.Lib in
/-- **unicode.IsSpace AT EVERY int32.** (LAID: no walk: one application.) -/
theorem Tryd.unicode_IsSpace_any (r : Int) (w : World) (hlo : -2147483648 ≤ r) (hhi : r ≤ 2147483647) (hW : Lib.WhiteTab 1 w) :
    Calls Tryd.prog 33 #[.int .i32 r] w fun e w' => e = .returned (.bool (Lib.isSpaceZ r)) ∧ Below w.heap.size w w' := Any.unicode_IsSpace_any Tryd.lays199 r w hlo hhi hW
end Go.Proofs
namespace Go.Proofs.YtblcgkkncoojeaaDoor.Q
open Go.RowKit Go.Lib Go.Shelf
def TBw (w : World) : Prop := Lib.WhiteTab 1 w
abbrev TBl (w : World) : Prop := TBu w ∧ TBw w
end Go.Proofs.YtblcgkkncoojeaaDoor.Q
namespace Go.Proofs.YtblcgkkncoojeaaDoor.Q
open Go.RowKit Go.Lib Go.Shelf
theorem TBl.of_laid {l : List (String × DataW Unit)} {w : World} (h : laidMetH Tryd.prog l w) (hp : (l.all fun x => x.2.handleName?.isNone) = true) (i j k : Nat) (hm : l[i]? = some ("unicode/utf8.first", firstData)) (hn : l[j]? = some ("unicode/utf8.acceptRanges", acceptData)) (ho : l[k]? = some ("unicode.White_Space", whiteData)) : TBl w := by
  refine ⟨TBu.of_laid h hp i j hm hn, ?_⟩
  rw [MakeChecks.laidMetH_plain _ _ _ hp] at h
  exact whiteTab_of_reads Tryd.lays199 ⟨by kernel_rfl, by kernel_rfl, by kernel_rfl, by kernel_rfl, by kernel_rfl, by kernel_rfl, by kernel_rfl, by kernel_rfl⟩ (Go.Lib.laidMet.reads h (List.mem_of_getElem? ho))
end Go.Proofs.YtblcgkkncoojeaaDoor.Q
namespace Go.Proofs.YtblcgkkncoojeaaDoor.Q
open Go.RowKit Go.Proofs.YtblcgkkncoojeaaDoorW.PrintWords
theorem decode_wide (s : ByteArray) (pos : Nat) : 1 ≤ (Utf8.decode s pos).2 := by
  unfold Utf8.decode
  dsimp only
  (repeat' split) <;> simp
theorem decode_fits (s : ByteArray) (pos : Nat) (h : pos < s.size) : 0 < (Utf8.decode s pos).2 ∧ pos + (Utf8.decode s pos).2 ≤ s.size := by
  refine ⟨decode_wide s pos, ?_⟩
  unfold Utf8.decode
  dsimp only
  (repeat' split) <;> simp_all <;> omega
end Go.Proofs.YtblcgkkncoojeaaDoor.Q
