/- Contracts of the library's functions, laid by the kit's lay-shelf at this seat's program. -/
import Derived.Shelf.Small.Utf8
import Derived.Shelf.Small.Bits
import Derived.Shelf.Utf8.AppendRune
import Derived.Shelf.Utf8.AppendRunePlain
import Derived.Shelf.Strconv.Bsearch
import Derived.Shelf.Strconv.IsPrint
import Derived.Shelf.Strconv.IsPrint16
import Derived.Shelf.Strconv.IsPrint32
import Derived.Shelf.Strconv.Escaped
import Derived.Shelf.Strconv.Quoted
import Derived.Shelf.Strconv.Quote
import Derived.Shelf.Strconv.Itoa0
import Derived.Shelf.LaysM
import Derived.Shelf.Bytes.Len
import Derived.Shelf.Bytes.TryGrow
import Derived.Shelf.Bytes.GrowSliceCatch
import Derived.Shelf.Bytes.GrowSlice
import Derived.Shelf.Bytes.String
import Derived.Shelf.Bytes.GrowRow0Kept
import Derived.Shelf.Bytes.GrowRowKept
import Derived.Shelf.Bytes.GrowNilKept
import Derived.Shelf.Bytes.GrowKept
import Derived.Shelf.Bytes.WriteByteKept
import Derived.Shelf.Bytes.WriteStringKept
import Derived.Shelf.Sort.Plain
import Derived.Shelf.Bytes.ResetKept
import Derived.Shelf.Bytes.WriteKept
import Derived.Shelf.Bytes.BufferK
import Derived.Shelf.GgClosure.StringsIndexFunc
import Derived.Ground.GgwProg
import Derived.Shelf.GgClosure.StringsIndexFuncTop
import Derived.Shelf.GgClosure.StringsRunes
import Derived.Shelf.Unicode.Latin
import Derived.Shelf.Unicode.Decode
import Derived.Shelf.Unicode.DecodeSlow
import Derived.Shelf.Unicode.DecodeAny
import Derived.Shelf.Unicode.Is16White
import Derived.Shelf.Unicode.IsSpaceAny
import Derived.Shelf.Unicode.Is16Any
import Derived.Shelf.Unicode.Is32Any
import Derived.Shelf.Unicode.ExclAny
import Derived.Shelf.Strings.FuncGrows
import Derived.Shelf.Slices.In.SortNone
import Derived.Test.YtnnhehlieakedaaGreatDoorProg
namespace Go.Proofs
open Go.Shelf
def Tryz.lays177_ren : Go.Shelf.Ren := ⟨fun | 177 => 57 | 250 => 78 | 289 => 81 | 197 => 107 | 323 => 108 | 260 => 127 | 339 => 128 | 340 => 129 | 242 => 130 | 119 => 131 | 345 => 148 | 346 => 149 | 278 => 150 | n => n, fun | 9 => 9 | 5 => 5 | 4 => 4 | 3 => 3 | 37 => 94 | 21 => 21 | 105 => 162 | 46 => 137 | 119 => 220 | 0 => 0 | 139 => 223 | 138 => 222 | 49 => 184 | 234 => 224 | 131 => 127 | 51 => 148 | 236 => 226 | n => n, fun | 3 => 10 | 4 => 11 | 20 => 12 | 21 => 13 | 22 => 14 | 23 => 15 | 24 => 16 | n => n⟩
theorem Tryz.lays177 : Go.Proofs.Lays.n177 Tryz.prog Tryz.lays177_ren := {
  mixed := by kernel_rfl
  f119 := Tryz.func131.trans (congrArg some (by kernel_rfl))
  f177 := Tryz.func57.trans (congrArg some (by kernel_rfl))
  f197 := Tryz.func107.trans (congrArg some (by kernel_rfl))
  f242 := Tryz.func130.trans (congrArg some (by kernel_rfl))
  f250 := Tryz.func78.trans (congrArg some (by kernel_rfl))
  f260 := Tryz.func127.trans (congrArg some (by kernel_rfl))
  f278 := Tryz.func150.trans (congrArg some (by kernel_rfl))
  f289 := Tryz.func81.trans (congrArg some (by kernel_rfl))
  f323 := Tryz.func108.trans (congrArg some (by kernel_rfl))
  f339 := Tryz.func128.trans (congrArg some (by kernel_rfl))
  f340 := Tryz.func129.trans (congrArg some (by kernel_rfl))
  f345 := Tryz.func148.trans (congrArg some (by kernel_rfl))
  f346 := Tryz.func149.trans (congrArg some (by kernel_rfl))
  t0 := Tryz.underlying0
  a0 := Tryz.isAgg0
  z0 := Tryz.sizeOf0
  v0 := Tryz.zeroValue0
  t3 := Tryz.underlying3
  a3 := Tryz.isAgg3
  z3 := Tryz.sizeOf3
  v3 := Tryz.zeroValue3
  t4 := Tryz.underlying4
  a4 := Tryz.isAgg4
  z4 := Tryz.sizeOf4
  v4 := Tryz.zeroValue4
  t5 := Tryz.underlying5
  a5 := Tryz.isAgg5
  z5 := Tryz.sizeOf5
  v5 := Tryz.zeroValue5
  t9 := Tryz.underlying9
  a9 := Tryz.isAgg9
  z9 := Tryz.sizeOf9
  v9 := Tryz.zeroValue9
  t21 := Tryz.underlying21
  a21 := Tryz.isAgg21
  z21 := Tryz.sizeOf21
  v21 := Tryz.zeroValue21
  t37 := Tryz.underlying94
  a37 := Tryz.isAgg94
  z37 := Tryz.sizeOf94
  v37 := Tryz.zeroValue94
  t46 := Tryz.underlying137
  a46 := Tryz.isAgg137
  z46 := Tryz.sizeOf137
  v46 := Tryz.zeroValue137
  t49 := Tryz.underlying184
  a49 := Tryz.isAgg184
  z49 := Tryz.sizeOf184
  v49 := Tryz.zeroValue184
  t51 := Tryz.underlying148
  a51 := Tryz.isAgg148
  z51 := Tryz.sizeOf148
  v51 := Tryz.zeroValue148
  t105 := Tryz.underlying162
  a105 := Tryz.isAgg162
  z105 := Tryz.sizeOf162
  v105 := Tryz.zeroValue162
  t119 := Tryz.underlying220
  a119 := Tryz.isAgg220
  z119 := Tryz.sizeOf220
  t131 := Tryz.underlying127
  a131 := Tryz.isAgg127
  z131 := Tryz.sizeOf127
  v131 := Tryz.zeroValue127
  t138 := Tryz.underlying222
  a138 := Tryz.isAgg222
  z138 := Tryz.sizeOf222
  v138 := Tryz.zeroValue222
  t139 := Tryz.underlying223
  a139 := Tryz.isAgg223
  z139 := Tryz.sizeOf223
  v139 := Tryz.zeroValue223
  t234 := Tryz.underlying224
  a234 := Tryz.isAgg224
  z234 := Tryz.sizeOf224
  v234 := Tryz.zeroValue224
  t236 := Tryz.underlying226
  a236 := Tryz.isAgg226
  z236 := Tryz.sizeOf226
  v236 := Tryz.zeroValue226
  g3 := by kernel_rfl
  g4 := by kernel_rfl
  g20 := by kernel_rfl
  g21 := by kernel_rfl
  g22 := by kernel_rfl
  g23 := by kernel_rfl
  g24 := by kernel_rfl }
open Go.RowKit in
/-- **strconv.Quote AT EVERY STRING, VALID UTF-8 OR NOT** (of at most some 2^43 bytes: ten bytes may come of one): 'strOfNums (Lib.quoteZ T s)': Derived/Lib/QuoteLoop.lean: a row of Lean a statement of Go. Of what was there nothing has turned. (LAID: no walk: one application.) -/
theorem Tryz.strconv_Quote (T : Lib.PrintTabs) (s : ByteArray) (w : World) (hlen : 10 * s.size + 12 ≤ 140737488355328) (hT : Lib.PrintTabsAt 12 13 14 15 T w) (hU : Lib.Utf8Tabs 10 11 w) :
    Calls Tryz.prog 57 #[.string s] w fun e w' => e = .returned (.string (strOfNums (Lib.quoteZ T s))) ∧ Below w.heap.size w w' := Any.strconv_Quote Tryz.lays177 (by kernel_rfl) T s w hlen hT hU
def Tryz.laysM182_ren : Go.Shelf.Ren := ⟨fun | 182 => 53 | n => n, fun | 130 => 111 | 9 => 9 | 4 => 4 | 0 => 0 | 93 => 98 | 37 => 94 | 3 => 3 | 91 => 96 | 5 => 5 | n => n, fun | n => n⟩
theorem Tryz.laysM182 : Go.Proofs.LaysM.n182 Tryz.prog Tryz.laysM182_ren := {
  mixed := by kernel_rfl
  f182 := Tryz.func53.trans (congrArg some (by kernel_rfl))
  t0 := Tryz.underlying0
  a0 := Tryz.isAgg0
  z0 := Tryz.sizeOf0
  v0 := Tryz.zeroValue0
  t3 := Tryz.underlying3
  a3 := Tryz.isAgg3
  z3 := Tryz.sizeOf3
  v3 := Tryz.zeroValue3
  t4 := Tryz.underlying4
  a4 := Tryz.isAgg4
  z4 := Tryz.sizeOf4
  v4 := Tryz.zeroValue4
  t9 := Tryz.underlying9
  a9 := Tryz.isAgg9
  z9 := Tryz.sizeOf9
  v9 := Tryz.zeroValue9
  t37 := Tryz.underlying94
  a37 := Tryz.isAgg94
  z37 := Tryz.sizeOf94
  v37 := Tryz.zeroValue94
  t93 := Tryz.underlying98
  a93 := Tryz.isAgg98
  z93 := Tryz.sizeOf98
  v93 := Tryz.zeroValue98
  t130 := Tryz.underlying111
  a130 := Tryz.isAgg111
  z130 := Tryz.sizeOf111
  v130 := Tryz.zeroValue111
  t5 := Tryz.underlying5
  a5 := Tryz.isAgg5
  z5 := Tryz.sizeOf5
  v5 := Tryz.zeroValue5
  t91 := Tryz.underlying96
  a91 := Tryz.isAgg96
  z91 := Tryz.sizeOf96
  v91 := Tryz.zeroValue96
  i0 := by kernel_rfl
  i3 := by kernel_rfl
  i4 := by kernel_rfl
  i5 := by kernel_rfl
  i9 := by kernel_rfl
  i37 := by kernel_rfl
  i91 := by kernel_rfl
  i93 := by kernel_rfl
  i130 := by kernel_rfl }
open Go.RowKit in
/-- (*bytes.Buffer).String: "String returns the contents of the unread portion of the buffer as a string.": THE BYTES THAT WERE WRITTEN. The world is as it was but for the count of draws (the statement has two reads: its order is drawn). (LAID: no walk: one application.) -/
theorem Tryz.Buffer_String (B b : Nat) (l : List UInt8) (w : World) (h : Lib.IsBuffer 98 5 B b (Lib.byteCells l) w) :
    Calls Tryz.prog 53 #[.pointer (some ⟨b, 0, none⟩)] w fun e w' => e = .returned (.string ⟨l.toArray⟩) ∧ ∃ n, w' = w.drewN n := Any.Buffer_String Tryz.laysM182 B b l w h
def Tryz.laysM179_ren : Go.Shelf.Ren := ⟨fun | 179 => 51 | 251 => 73 | 252 => 74 | 181 => 90 | 184 => 91 | 290 => 92 | 324 => 118 | n => n, fun | 130 => 111 | 5 => 5 | 75 => 50 | 0 => 0 | 93 => 98 | 91 => 96 | 3 => 3 | 131 => 127 | 4 => 4 | 37 => 94 | 20 => 20 | 80 => 69 | 9 => 9 | n => n, fun | 14 => 1 | n => n⟩
theorem Tryz.laysM179 : Go.Proofs.LaysM.n179 Tryz.prog Tryz.laysM179_ren := {
  mixed := by kernel_rfl
  f179 := Tryz.func51.trans (congrArg some (by kernel_rfl))
  f181 := Tryz.func90.trans (congrArg some (by kernel_rfl))
  f184 := Tryz.func91.trans (congrArg some (by kernel_rfl))
  f251 := Tryz.func73.trans (congrArg some (by kernel_rfl))
  f252 := Tryz.func74.trans (congrArg some (by kernel_rfl))
  f290 := Tryz.func92.trans (congrArg some (by kernel_rfl))
  f324 := Tryz.func118.trans (congrArg some (by kernel_rfl))
  t0 := Tryz.underlying0
  a0 := Tryz.isAgg0
  z0 := Tryz.sizeOf0
  v0 := Tryz.zeroValue0
  t3 := Tryz.underlying3
  a3 := Tryz.isAgg3
  z3 := Tryz.sizeOf3
  v3 := Tryz.zeroValue3
  t4 := Tryz.underlying4
  a4 := Tryz.isAgg4
  z4 := Tryz.sizeOf4
  v4 := Tryz.zeroValue4
  t5 := Tryz.underlying5
  a5 := Tryz.isAgg5
  z5 := Tryz.sizeOf5
  v5 := Tryz.zeroValue5
  t20 := Tryz.underlying20
  a20 := Tryz.isAgg20
  z20 := Tryz.sizeOf20
  v20 := Tryz.zeroValue20
  t37 := Tryz.underlying94
  a37 := Tryz.isAgg94
  z37 := Tryz.sizeOf94
  v37 := Tryz.zeroValue94
  t75 := Tryz.underlying50
  a75 := Tryz.isAgg50
  z75 := Tryz.sizeOf50
  v75 := Tryz.zeroValue50
  t91 := Tryz.underlying96
  a91 := Tryz.isAgg96
  z91 := Tryz.sizeOf96
  v91 := Tryz.zeroValue96
  t93 := Tryz.underlying98
  a93 := Tryz.isAgg98
  z93 := Tryz.sizeOf98
  v93 := Tryz.zeroValue98
  t130 := Tryz.underlying111
  a130 := Tryz.isAgg111
  z130 := Tryz.sizeOf111
  v130 := Tryz.zeroValue111
  t131 := Tryz.underlying127
  a131 := Tryz.isAgg127
  z131 := Tryz.sizeOf127
  v131 := Tryz.zeroValue127
  g14 := by kernel_rfl
  t9 := Tryz.underlying9
  a9 := Tryz.isAgg9
  z9 := Tryz.sizeOf9
  v9 := Tryz.zeroValue9
  t80 := Tryz.underlying69
  a80 := Tryz.isAgg69
  z80 := Tryz.sizeOf69
  v80 := Tryz.zeroValue69
  i0 := by kernel_rfl
  i3 := by kernel_rfl
  i4 := by kernel_rfl
  i5 := by kernel_rfl
  i9 := by kernel_rfl
  i20 := by kernel_rfl
  i37 := by kernel_rfl
  i75 := by kernel_rfl
  i80 := by kernel_rfl
  i91 := by kernel_rfl
  i93 := by kernel_rfl
  i130 := by kernel_rfl
  i131 := by kernel_rfl
  m14 := by kernel_rfl }
def Tryz.laysM178_ren : Go.Shelf.Ren := ⟨fun | 178 => 52 | 251 => 73 | 252 => 74 | 181 => 90 | 184 => 91 | 290 => 92 | 324 => 118 | n => n, fun | 130 => 111 | 9 => 9 | 3 => 3 | 75 => 50 | 0 => 0 | 93 => 98 | 91 => 96 | 131 => 127 | 4 => 4 | 37 => 94 | 20 => 20 | 80 => 69 | 5 => 5 | n => n, fun | 14 => 1 | n => n⟩
theorem Tryz.laysM178 : Go.Proofs.LaysM.n178 Tryz.prog Tryz.laysM178_ren := {
  mixed := by kernel_rfl
  f178 := Tryz.func52.trans (congrArg some (by kernel_rfl))
  f181 := Tryz.func90.trans (congrArg some (by kernel_rfl))
  f184 := Tryz.func91.trans (congrArg some (by kernel_rfl))
  f251 := Tryz.func73.trans (congrArg some (by kernel_rfl))
  f252 := Tryz.func74.trans (congrArg some (by kernel_rfl))
  f290 := Tryz.func92.trans (congrArg some (by kernel_rfl))
  f324 := Tryz.func118.trans (congrArg some (by kernel_rfl))
  t0 := Tryz.underlying0
  a0 := Tryz.isAgg0
  z0 := Tryz.sizeOf0
  v0 := Tryz.zeroValue0
  t3 := Tryz.underlying3
  a3 := Tryz.isAgg3
  z3 := Tryz.sizeOf3
  v3 := Tryz.zeroValue3
  t4 := Tryz.underlying4
  a4 := Tryz.isAgg4
  z4 := Tryz.sizeOf4
  v4 := Tryz.zeroValue4
  t9 := Tryz.underlying9
  a9 := Tryz.isAgg9
  z9 := Tryz.sizeOf9
  v9 := Tryz.zeroValue9
  t20 := Tryz.underlying20
  a20 := Tryz.isAgg20
  z20 := Tryz.sizeOf20
  v20 := Tryz.zeroValue20
  t37 := Tryz.underlying94
  a37 := Tryz.isAgg94
  z37 := Tryz.sizeOf94
  v37 := Tryz.zeroValue94
  t75 := Tryz.underlying50
  a75 := Tryz.isAgg50
  z75 := Tryz.sizeOf50
  v75 := Tryz.zeroValue50
  t91 := Tryz.underlying96
  a91 := Tryz.isAgg96
  z91 := Tryz.sizeOf96
  v91 := Tryz.zeroValue96
  t93 := Tryz.underlying98
  a93 := Tryz.isAgg98
  z93 := Tryz.sizeOf98
  v93 := Tryz.zeroValue98
  t130 := Tryz.underlying111
  a130 := Tryz.isAgg111
  z130 := Tryz.sizeOf111
  v130 := Tryz.zeroValue111
  t131 := Tryz.underlying127
  a131 := Tryz.isAgg127
  z131 := Tryz.sizeOf127
  v131 := Tryz.zeroValue127
  g14 := by kernel_rfl
  t5 := Tryz.underlying5
  a5 := Tryz.isAgg5
  z5 := Tryz.sizeOf5
  v5 := Tryz.zeroValue5
  t80 := Tryz.underlying69
  a80 := Tryz.isAgg69
  z80 := Tryz.sizeOf69
  v80 := Tryz.zeroValue69
  i0 := by kernel_rfl
  i3 := by kernel_rfl
  i4 := by kernel_rfl
  i5 := by kernel_rfl
  i9 := by kernel_rfl
  i20 := by kernel_rfl
  i37 := by kernel_rfl
  i75 := by kernel_rfl
  i80 := by kernel_rfl
  i91 := by kernel_rfl
  i93 := by kernel_rfl
  i130 := by kernel_rfl
  i131 := by kernel_rfl
  m14 := by kernel_rfl }
open Go.RowKit in
theorem Tryz.Buffer_WriteByte_k (B b : Nat) (bs : List Value) (c : Int) (w : World) (h : Lib.IsBuffer 98 5 B b bs w) (hBw : B ≤ w.heap.size) (h1 : ∀ v ∈ bs, v.oneCell' = true) (hlim : bs.length + 1 ≤ 140737488355328) :
    Calls Tryz.prog 51 #[.pointer (some ⟨b, 0, none⟩), .int .u8 c] w fun e w' => e = .returned .nilIface ∧ Lib.IsBuffer 98 5 B b (bs ++ [.int .u8 c]) w' ∧ Below B w w' ∧ Lib.OthersKept 5 (some b) w w' := Any.Buffer_WriteByte_k Tryz.laysM179 B b bs c w h hBw h1 hlim
open Go.RowKit in
theorem Tryz.Buffer_WriteString_k (B b : Nat) (bs : List Value) (s : ByteArray) (w : World) (h : Lib.IsBuffer 98 5 B b bs w) (hBw : B ≤ w.heap.size) (h1 : ∀ v ∈ bs, v.oneCell' = true) (hlim : bs.length + s.size ≤ 140737488355328) :
    Calls Tryz.prog 52 #[.pointer (some ⟨b, 0, none⟩), .string s] w fun e w' => e = .returned (.tuple #[.int .i64 s.size, .nilIface]) ∧ Lib.IsBuffer 98 5 B b (bs ++ Lib.byteCells s.data.toList) w' ∧ Below B w w' ∧ Lib.OthersKept 5 (some b) w w' := Any.Buffer_WriteString_k Tryz.laysM178 B b bs s w h hBw h1 hlim
def Tryz.laysGw17_ren : Go.Shelf.Ren := ⟨fun | 17 => 55 | 15 => 75 | 20 => 93 | n => n, fun | 9 => 9 | 23 => 104 | 4 => 4 | 3 => 3 | 0 => 0 | 21 => 21 | n => n, fun | n => n⟩
theorem Tryz.laysGw17 : Go.Proofs.LaysGw.n17 Tryz.prog Tryz.laysGw17_ren := {
  mixed := by kernel_rfl
  f15 := Tryz.func75.trans (congrArg some (by kernel_rfl))
  f17 := Tryz.func55.trans (congrArg some (by kernel_rfl))
  f20 := Tryz.func93.trans (congrArg some (by kernel_rfl))
  t0 := Tryz.underlying0
  a0 := Tryz.isAgg0
  z0 := Tryz.sizeOf0
  v0 := Tryz.zeroValue0
  i0 := by kernel_rfl
  t3 := Tryz.underlying3
  a3 := Tryz.isAgg3
  z3 := Tryz.sizeOf3
  v3 := Tryz.zeroValue3
  i3 := by kernel_rfl
  t4 := Tryz.underlying4
  a4 := Tryz.isAgg4
  z4 := Tryz.sizeOf4
  v4 := Tryz.zeroValue4
  i4 := by kernel_rfl
  t9 := Tryz.underlying9
  a9 := Tryz.isAgg9
  z9 := Tryz.sizeOf9
  v9 := Tryz.zeroValue9
  i9 := by kernel_rfl
  t21 := Tryz.underlying21
  a21 := Tryz.isAgg21
  z21 := Tryz.sizeOf21
  v21 := Tryz.zeroValue21
  i21 := by kernel_rfl
  t23 := Tryz.underlying104
  a23 := Tryz.isAgg104
  z23 := Tryz.sizeOf104
  v23 := Tryz.zeroValue104
  i23 := by kernel_rfl }
open Go.RowKit Go.Lib in
theorem Tryz.strings_ContainsFunc_grows (g : Nat) (lb : Array Value) (eg : ∀ args w, (callFunc g args).run Tryz.prog w = .ok (.enter g args) w) (p : Nat → Bool) (s : ByteArray) (w : World) (hp : PredGrows Tryz.prog g lb p w) :
    Calls Tryz.prog 55 #[.string s, .func (.func g) #[] lb] w fun e w' => e = .returned (.bool (decide (0 ≤ Lib.idxFunc p true s))) ∧ Below w.heap.size w w' := Any.strings_ContainsFunc_grows Tryz.laysGw17 g lb eg p s w hp
end Go.Proofs
