/- The lexer of package parse in memory, and its small methods: next, rewind, skip, position, emit. Condition: the library's tables as it lays them. The lexer's methods rewind, skip, position and emit. No condition beyond the lexer's state. What parse.zzContainsRune returns: whether a character is one of a text's. No condition. What parse.isReserved returns. Condition: the table of white space as the library lays it. The lexer's accept, expect and scanUnquoted. Condition: the library's tables as it lays them, below the lexer's block. The lexer's scanOperator, scanUnquoted and scanQuoted. Condition: the library's tables as it lays them, below the lexer's block. The lexer's scanUnquoted. Condition: the library's tables as it lays them, below the lexer's block. The lexer's scanQuoted. Condition: the library's tables as it lays them, below the lexer's block. The lexer's scan. Condition: the library's tables as it lays them, below the lexer's block. The lexer's peek: what it leaves is the lexer as it was but for the error. Condition: the library's tables as it lays them, below the lexer's block. The lexer's scan where an error is known. Condition: the library's tables as it lays them, below the lexer's block. -/
import Derived.WalkLawsBesides
import Derived.Outline
import Derived.Deep.RegionHeld3
import Derived.Maps.AppendAt
import Derived.Lib.HexFns
import Derived.Lib.HexFns2
import Derived.Lib.BufferOwn
import Derived.Test.YtnnhehlieakedaaGreatDoorHTabM
import Derived.BigRegion
import Derived.RegionTactic
import Derived.Lib.OthersKept
import Derived.Defers
set_option linter.unusedVariables false
set_option linter.unusedSimpArgs false
namespace Go.Proofs.YtnnhehlieakedaaGreatDoor.Q
open Go.RowKit Go.Lib Go.Proofs.YtnnhehlieakedaaGreatDoorW.PrintWords Go.Proofs.YtnnhehlieakedaaGreatDoorW.PrintLast Go.Proofs.YtnnhehlieakedaaGreatDoorW.PrintMore
attribute [local go_sem] max2_int min2_int max_two min_two max_three min_three max_four min_four
/-- What a lexer holds beside its input and its error: start, pos, width, column, cols. -/
structure LSt where
  st : Int
  p : Int
  wd : Int
  cl : Int
  cs : Int
def lexL (s : ByteArray) (err : Value) (x : LSt) : List Value := [.string s, err, .int .i64 x.st, .int .i64 x.p, .int .i64 x.wd, .int .i64 x.cl, .int .i64 x.cs]
/-- A lexer lies in block b, behind the cells pre. -/
def LexAt (w : World) (b T : Nat) (pre post : List Value) (s : ByteArray) (err : Value) (x : LSt) : Prop := w.heap[b]? = some (.cells (pre ++ lexL s err x ++ post).toArray T (0, 0))
section
variable {w : World} {b T : Nat} {pre post : List Value} {s : ByteArray} {err : Value} {x : LSt}
theorem LexAt.cell (h : LexAt w b T pre post s err x) (j : Nat) (v : Value) (hv : (lexL s err x)[j]? = some v) : w.cell? ⟨b, pre.length + j, none⟩ = some v := by
  unfold LexAt at h
  rw [Lib.cell_of_heap h]
  simp only [List.getElem?_toArray]
  rw [List.append_assoc, List.getElem?_append_right (by omega), Nat.add_sub_cancel_left, List.getElem?_append_left (List.getElem?_eq_some_iff.1 hv).1]
  exact hv
theorem LexAt.free (h : LexAt w b T pre post s err x) (j : Nat) : w.frozen? ⟨b, j, none⟩ = false := by
  unfold LexAt at h
  simp [World.frozen?, h]
theorem LexAt.lt (h : LexAt w b T pre post s err x) : b < w.heap.size := (Array.getElem?_eq_some_iff.1 h).1
theorem LexAt.set (h : LexAt w b T pre post s err x) (j : Nat) (hj : j < 7) (v : Value) {err' : Value} {x' : LSt} (hx : (lexL s err x).set j v = lexL s err' x') : LexAt (w.setCell ⟨b, pre.length + j, none⟩ v) b T pre post s err' x' := by
  unfold LexAt at *
  have hl : (lexL s err x).length = 7 := rfl
  rw [← hx]
  simp only [World.setCell, Array.getElem?_modify, h]
  simp only [if_true, Option.map_some, Option.some.injEq, Obj.cells.injEq, and_true]
  apply Array.ext'
  simp only [Option.isSome_none, Bool.false_eq_true, if_false, Array.toList_setIfInBounds]
  rw [List.append_assoc, List.append_assoc, List.set_append_right _ _ (by omega), Nat.add_sub_cancel_left, List.set_append_left _ _ (by omega)]
theorem LexAt.kept {w' : World} {row : Option Nat} (h : LexAt w b T pre post s err x) (hg : w.grownBy w' row) (hr : row ≠ some b) : LexAt w' b T pre post s err x :=
  (hg.block b h.lt (Ne.symm hr)).trans h
theorem LexAt.below {w' : World} (h : LexAt w b T pre post s err x) (hb : Below w.heap.size w w') : LexAt w' b T pre post s err x := (hb.block b h.lt).trans h
end
/-- What the cursor reads next: the character, or -1 at the end, and the state behind it. -/
def nextR (s : ByteArray) (p : Int) : Int := if p.toNat < s.size then ((Utf8.decode s p.toNat).1 : Int) else -1
def nextS (s : ByteArray) (x : LSt) : LSt := if x.p.toNat < s.size then { x with wd := (Utf8.decode s x.p.toNat).2, p := x.p + (Utf8.decode s x.p.toNat).2, cs := x.cs + 1 } else { x with wd := 0 }
def backS (x : LSt) : LSt := { x with p := x.p - x.wd, cs := if 0 < x.wd then x.cs - 1 else x.cs }
/-- A state that a lexer comes to. -/
structure LOk (s : ByteArray) (x : LSt) : Prop where
  p0 : 0 ≤ x.p
  p1 : x.p ≤ s.size
  s0 : 0 ≤ x.st
  s1 : x.st ≤ x.p
  w0 : 0 ≤ x.wd
  w1 : x.wd ≤ 4
  c0 : 0 ≤ x.cl
  c1 : x.cl ≤ 9000000000
  d0 : -1 ≤ x.cs
  d1 : x.cs ≤ 9000000000
  big : s.size ≤ 4294967296
theorem decode_cut (s : ByteArray) (p : Nat) (h : p < s.size) : Lib.decodeGo (s.extract p s.size) = Utf8.decode s p := by
  have hz : (s.extract p s.size).size = s.size - p := by rw [ByteArray.size_extract]; omega
  unfold Lib.decodeGo
  rw [if_neg (by omega)]
  have hb : ∀ k, (s.extract p s.size).get! (0 + k) = s.get! (p + k) := fun k => by
    rw [Nat.zero_add]
    by_cases hk : p + k < s.size
    · have h1 : k < (s.extract p s.size).size := by omega
      have e1 : (s.extract p s.size).get! k = (s.extract p s.size)[k]'h1 := by
        generalize s.extract p s.size = t at *
        obtain ⟨⟨l⟩⟩ := t
        have h' : k < l.length := h1
        simp [ByteArray.get!, h']
        rfl
      have e2 : s.get! (p + k) = s[p + k]'hk := by
        obtain ⟨⟨l⟩⟩ := s
        have h' : p + k < l.length := hk
        simp [ByteArray.get!, h']
        rfl
      rw [e1, e2, ByteArray.getElem_extract]
    · have e1 : ∀ (t : ByteArray) (j : Nat), ¬ j < t.size → t.get! j = default := fun t j hj => by
        obtain ⟨⟨l⟩⟩ := t
        have h' : ¬ j < l.length := hj
        simp [ByteArray.get!, h']
      rw [e1 _ _ (by omega), e1 _ _ hk]
  have hs : ∀ k, (0 + k < (s.extract p s.size).size) = (p + k < s.size) := fun k => by rw [hz]; apply propext; omega
  unfold Utf8.decode
  simp only [hb, hs]
section
variable {w : World} {b T : Nat} {pre post : List Value} {s : ByteArray} {err : Value} {x : LSt}
theorem LexAt.c0 (h : LexAt w b T pre post s err x) : w.cell? ⟨b, pre.length, none⟩ = some (.string s) := h.cell 0 _ rfl
theorem LexAt.c1 (h : LexAt w b T pre post s err x) : w.cell? ⟨b, pre.length + 1, none⟩ = some err := h.cell 1 _ rfl
theorem LexAt.c2 (h : LexAt w b T pre post s err x) : w.cell? ⟨b, pre.length + 2, none⟩ = some (.int .i64 x.st) := h.cell 2 _ rfl
theorem LexAt.c3 (h : LexAt w b T pre post s err x) : w.cell? ⟨b, pre.length + 3, none⟩ = some (.int .i64 x.p) := h.cell 3 _ rfl
theorem LexAt.c4 (h : LexAt w b T pre post s err x) : w.cell? ⟨b, pre.length + 4, none⟩ = some (.int .i64 x.wd) := h.cell 4 _ rfl
theorem LexAt.c5 (h : LexAt w b T pre post s err x) : w.cell? ⟨b, pre.length + 5, none⟩ = some (.int .i64 x.cl) := h.cell 5 _ rfl
theorem LexAt.c6 (h : LexAt w b T pre post s err x) : w.cell? ⟨b, pre.length + 6, none⟩ = some (.int .i64 x.cs) := h.cell 6 _ rfl
theorem LexAt.set1 (h : LexAt w b T pre post s err x) (v : Value) : LexAt (w.setCell ⟨b, pre.length + 1, none⟩ v) b T pre post s v x := h.set 1 (by omega) _ rfl
theorem LexAt.set2 (h : LexAt w b T pre post s err x) (v : Int) : LexAt (w.setCell ⟨b, pre.length + 2, none⟩ (.int .i64 v)) b T pre post s err { x with st := v } := h.set 2 (by omega) _ rfl
theorem LexAt.set3 (h : LexAt w b T pre post s err x) (v : Int) : LexAt (w.setCell ⟨b, pre.length + 3, none⟩ (.int .i64 v)) b T pre post s err { x with p := v } := h.set 3 (by omega) _ rfl
theorem LexAt.set4 (h : LexAt w b T pre post s err x) (v : Int) : LexAt (w.setCell ⟨b, pre.length + 4, none⟩ (.int .i64 v)) b T pre post s err { x with wd := v } := h.set 4 (by omega) _ rfl
theorem LexAt.set5 (h : LexAt w b T pre post s err x) (v : Int) : LexAt (w.setCell ⟨b, pre.length + 5, none⟩ (.int .i64 v)) b T pre post s err { x with cl := v } := h.set 5 (by omega) _ rfl
theorem LexAt.set6 (h : LexAt w b T pre post s err x) (v : Int) : LexAt (w.setCell ⟨b, pre.length + 6, none⟩ (.int .i64 v)) b T pre post s err { x with cs := v } := h.set 6 (by omega) _ rfl
theorem LexAt.drewN (h : LexAt w b T pre post s err x) (n : Nat) : LexAt (w.drewN n) b T pre post s err x := h.below (pw_below_drewN (Below.refl _ _) n)
end
/-- What a method of the lexer leaves: the lexer in a state, everything else as it was. -/
structure LexOut (w w' : World) (b T : Nat) (pre post : List Value) (s : ByteArray) (err : Value) (x : LSt) : Prop where
  lex : LexAt w' b T pre post s err x
  grown : w.grownBy w' (some b)
theorem grown_set {w w' : World} {b : Nat} (h : w.grownBy w' (some b)) (o : Nat) (v : Value) : w.grownBy (w'.setCell ⟨b, o, none⟩ v) (some b) := grownBy_setB h o v
theorem grown_drewN {w : World} (n : Nat) (row : Option Nat) : w.grownBy (w.drewN n) row := grownBy_below (World.grownBy.refl w row) (pw_below_drewN (Below.refl _ _) n)
set_option maxRecDepth 100000 in
set_option maxHeartbeats 1000000 in
theorem next_calls (w : World) (b T : Nat) (pre post : List Value) (s : ByteArray) (err : Value) (x : LSt) (h : LexAt w b T pre post s err x) (hk : LOk s x) (tb : TBl w) :
    Calls Tryz.prog 132 #[.pointer (some ⟨b, pre.length, none⟩)] w fun e w' => e = .returned (.int .i32 (nextR s x.p)) ∧ LexOut w w' b T pre post s err (nextS s x) := by
  have HL := Aside0.mk h
  have HT := Aside0.mk tb
  have c0 := h.c0
  have c3 := h.c3
  have c4 := h.c4
  have c6 := h.c6
  have f3 := h.free (pre.length + 3)
  have f4 := h.free (pre.length + 4)
  have f6 := h.free (pre.length + 6)
  obtain ⟨p0, p1, -, -, -, -, -, -, d0, d1, big⟩ := hk
  clear h tb
  by_cases hp : x.p.toNat < s.size
  · have hlt : x.p < (s.size : Int) := by omega
    have hge : ((s.size : Int) ≤ x.p) = False := eq_false (by omega)
    have HF := Aside0.mk (decode_fits s x.p.toNat hp)
    have HD := Aside0.mk (decode_cut s x.p.toNat hp)
    have HO : Aside0 (nextR s x.p = ((Utf8.decode s x.p.toNat).1 : Int) ∧ nextS s x = { x with wd := (Utf8.decode s x.p.toNat).2, p := x.p + (Utf8.decode s x.p.toNat).2, cs := x.cs + 1 }) := ⟨by unfold nextR nextS; rw [if_pos hp, if_pos hp]; exact ⟨rfl, rfl⟩⟩
    rw [HO.out.1, HO.out.2]
    generalize hdd : Utf8.decode s x.p.toNat = dd at *
    obtain ⟨c, wd⟩ := dd
    have hfit := HF.out
    simp only at hfit
    clear hdd
    have HP := Aside0.mk hp
    clear hp
    go_enter Tryz.func132, Tryz.ntmps132
    go_wp2
    go_quiet (fail)
    go_wp2_with fail
    go_region_with (go_at_call 107; refine (Tryz.utf8_DecodeRuneInString _ _ (TBu.below HT.out.1 (by repeat (first | (with_reducible exact Below.refl _ _) | apply below_drew1 | apply pw_below_drewN)))).mono ?_; rintro e w2 ⟨rfl, hB⟩; rw [HD.out]; have HL2 := Aside0.mk ((HL.out.below (by repeat (first | (with_reducible exact Below.refl _ _) | apply below_drew1 | apply pw_below_drewN))).below hB); have HG2 := Aside0.mk (grownBy_below (grownBy_below (World.grownBy.refl w (some b)) (by repeat (first | (with_reducible exact Below.refl _ _) | apply below_drew1 | apply pw_below_drewN))) hB); clear hB c0 c3 c4 c6 f3 f4 f6; have c3 := HL2.out.c3; have c4 := HL2.out.c4; have c6 := HL2.out.c6; have f3 := HL2.out.free (pre.length + 3); have f4 := HL2.out.free (pre.length + 4); have f6 := HL2.out.free (pre.length + 6))
    all_goals
      go_wp2
      go_ret
      refine ⟨rfl, ?_, ?_⟩
      · have z := ((HL2.out.set4 (wd : Int)).set3 (x.p + wd)).set6 (x.cs + 1)
        exact z
      · exact grown_set (grown_set (grown_set HG2.out _ _) _ _) _ _
  · have hge : ((s.size : Int) ≤ x.p) = True := eq_true (by omega)
    have HO : Aside0 (nextR s x.p = -1 ∧ nextS s x = { x with wd := 0 }) := ⟨by unfold nextR nextS; rw [if_neg hp, if_neg hp]; exact ⟨rfl, rfl⟩⟩
    rw [HO.out.1, HO.out.2]
    clear hp
    go_enter Tryz.func132, Tryz.ntmps132
    go_wp2
    go_quiet (fail)
    go_wp2
    go_ret
    exact ⟨rfl, (HL.out.drewN _).set4 0, grown_set (grown_drewN _ _) _ _⟩
end Go.Proofs.YtnnhehlieakedaaGreatDoor.Q
namespace Go.Proofs.YtnnhehlieakedaaGreatDoor.Q
open Go.RowKit Go.Lib Go.Proofs.YtnnhehlieakedaaGreatDoorW.PrintWords Go.Proofs.YtnnhehlieakedaaGreatDoorW.PrintLast Go.Proofs.YtnnhehlieakedaaGreatDoorW.PrintMore
attribute [local go_sem] max2_int min2_int max_two min_two max_three min_three max_four min_four
set_option maxRecDepth 100000 in
set_option maxHeartbeats 1000000 in
theorem rewind_calls (w : World) (b T : Nat) (pre post : List Value) (s : ByteArray) (err : Value) (x : LSt) (h : LexAt w b T pre post s err x) (hk : LOk s x) :
    Calls Tryz.prog 134 #[.pointer (some ⟨b, pre.length, none⟩)] w fun e w' => e = .returned (.tuple #[]) ∧ LexOut w w' b T pre post s err (backS x) := by
  have HL := Aside0.mk h
  have c3 := h.c3
  have c4 := h.c4
  have c6 := h.c6
  have f3 := h.free (pre.length + 3)
  have f6 := h.free (pre.length + 6)
  obtain ⟨p0, p1, -, -, w0, w1, -, -, d0, d1, big⟩ := hk
  have HO : Aside0 (backS x = { x with p := x.p - x.wd, cs := if 0 < x.wd then x.cs - 1 else x.cs }) := ⟨rfl⟩
  rw [HO.out]
  clear h
  by_cases hw : 0 < x.wd
  · rw [if_pos hw]
    go_enter Tryz.func134, Tryz.ntmps134
    go_wp2
    go_region
    all_goals
      go_wp2
      go_end0
      exact ⟨rfl, (HL.out.drewN 1).set3 (x.p - x.wd) |>.set6 (x.cs - 1), grown_set (grown_set (grown_drewN 1 _) _ _) _ _⟩
  · rw [if_neg hw]
    go_enter Tryz.func134, Tryz.ntmps134
    go_wp2
    go_region
    all_goals
      go_wp2
      go_end0
      exact ⟨rfl, (HL.out.drewN 1).set3 (x.p - x.wd), grown_set (grown_drewN 1 _) _ _⟩
def skipS (x : LSt) : LSt := { x with st := x.p, cl := x.cs }
set_option maxHeartbeats 1000000 in
theorem skip_calls (w : World) (b T : Nat) (pre post : List Value) (s : ByteArray) (err : Value) (x : LSt) (h : LexAt w b T pre post s err x) :
    Calls Tryz.prog 139 #[.pointer (some ⟨b, pre.length, none⟩)] w fun e w' => e = .returned (.tuple #[]) ∧ LexOut w w' b T pre post s err (skipS x) := by
  have HL := Aside0.mk h
  have c2 := h.c2
  have c3 := h.c3
  have c5 := h.c5
  have c6 := h.c6
  have f2 := h.free (pre.length + 2)
  have f5 := h.free (pre.length + 5)
  clear h
  go_enter Tryz.func139, Tryz.ntmps139
  go_wp2
  go_end0
  exact ⟨rfl, (HL.out.set2 x.p).set5 x.cs, grown_set (grown_set (World.grownBy.refl _ _) _ _) _ _⟩
def posV (x : LSt) : Value := .agg #[.int .i64 x.st, .int .i64 x.p, .int .i64 x.cl, .int .i64 x.cs]
set_option maxRecDepth 100000 in
set_option maxHeartbeats 1000000 in
theorem position_calls (w : World) (b T : Nat) (pre post : List Value) (s : ByteArray) (err : Value) (x : LSt) (h : LexAt w b T pre post s err x) :
    Calls Tryz.prog 140 #[.pointer (some ⟨b, pre.length, none⟩)] w fun e w' => e = .returned (posV x) ∧ Below w.heap.size w w' := by
  have HL := Aside0.mk h
  have hlt := h.lt
  have c2 := h.c2
  have c3 := h.c3
  have c5 := h.c5
  have c6 := h.c6
  clear h
  go_enter Tryz.func140, Tryz.ntmps140
  go_wp2
  go_region_held3 (fun w' => w'.cell? ⟨b, pre.length + 2, none⟩ = some (.int .i64 x.st) ∧ w'.cell? ⟨b, pre.length + 3, none⟩ = some (.int .i64 x.p) ∧ w'.cell? ⟨b, pre.length + 5, none⟩ = some (.int .i64 x.cl) ∧ w'.cell? ⟨b, pre.length + 6, none⟩ = some (.int .i64 x.cs))
    (first | go_keep)
    (first | fail)
  go_wp2
  exact bodyPost_ret (v := posV x) (by simp [results, Tryz.results140, go_sem, posV]) rfl ⟨rfl, below_drew (below_alloc (Below.refl _ _) _)⟩
theorem cells_in {w : World} {k : Nat} {cs : Array Value} {t : Nat} (h : w.heap[k]? = some (.cells cs t (0, 0))) : (∀ j, w.cell? ⟨k, j, none⟩ = cs[j]?) ∧ ∀ j, w.frozen? ⟨k, j, none⟩ = false :=
  ⟨fun j => Lib.cell_of_heap h j, fun j => by simp [World.frozen?, h]⟩
theorem heap_one (w : World) (o p : Obj) : ((w.alloc o).alloc p).drew.heap[w.heap.size]? = some o := by
  show ((w.heap.push o).push p)[w.heap.size]? = some o
  rw [Array.getElem?_push_lt (by simp), Array.getElem_push_eq]
theorem heap_two (w : World) (o p : Obj) : ((w.alloc o).alloc p).drew.heap[w.heap.size + 1]? = some p := by
  show ((w.heap.push o).push p)[w.heap.size + 1]? = some p
  have : (w.heap.push o).size = w.heap.size + 1 := by simp
  rw [← this, Array.getElem?_push_size]
/-- What is held within emit's region: the lexer as it was, and the block of the result. -/
structure EmIn (w W : World) (b T : Nat) (pre post : List Value) (s : ByteArray) (err : Value) (x : LSt) (ob : Obj) : Prop where
  lex : LexAt W b T pre post s err x
  bel : Below w.heap.size w W
  blk : W.heap[w.heap.size]? = some ob
theorem EmIn.start {w : World} {b T : Nat} {pre post : List Value} {s : ByteArray} {err : Value} {x : LSt} {ob : Obj} (h : LexAt w b T pre post s err x) : EmIn w (w.alloc ob).drew b T pre post s err x ob :=
  ⟨(h.below (below_alloc (Below.refl _ _) _)).below (below_drew (Below.refl _ _)), below_drew (below_alloc (Below.refl _ _) _), heap_alloc_new w _⟩
theorem EmIn.start2 {w : World} {b T : Nat} {pre post : List Value} {s : ByteArray} {err : Value} {x : LSt} {ob : Obj} (h : LexAt w b T pre post s err x) (o : Obj) : EmIn w ((w.alloc ob).alloc o).drew b T pre post s err x ob :=
  have hb := below_drew (below_alloc (below_alloc (Below.refl w.heap.size w) ob) o)
  ⟨h.below hb, hb, heap_one w ob o⟩
theorem EmIn.alloc {w W : World} {b T : Nat} {pre post : List Value} {s : ByteArray} {err : Value} {x : LSt} {ob : Obj} (h : EmIn w W b T pre post s err x ob) (o : Obj) : EmIn w (W.alloc o) b T pre post s err x ob :=
  ⟨h.lex.below (below_alloc (Below.refl _ _) _), below_alloc h.bel _, ((below_alloc (Below.refl W.heap.size W) o).block _ (Array.getElem?_eq_some_iff.1 h.blk).1).trans h.blk⟩
theorem EmIn.set {w W : World} {b T : Nat} {pre post : List Value} {s : ByteArray} {err : Value} {x : LSt} {ob : Obj} (h : EmIn w W b T pre post s err x ob) (hb : b < w.heap.size) (o : Nat) (v : Value) : EmIn w (W.setCell ⟨w.heap.size + 1, o, none⟩ v) b T pre post s err x ob := by
  have e : ∀ k, k ≠ w.heap.size + 1 → (W.setCell ⟨w.heap.size + 1, o, none⟩ v).heap[k]? = W.heap[k]? := fun k hk => Below.heap_setCell _ _ _ _ hk
  exact ⟨(e b (by omega)).trans h.lex, h.bel.setCell (p := ⟨w.heap.size + 1, o, none⟩) (Nat.le_succ _) v, (e _ (by omega)).trans h.blk⟩
theorem EmIn.set6 {w W : World} {b T : Nat} {pre post : List Value} {s : ByteArray} {err : Value} {x : LSt} {ob : Obj} (h : EmIn w W b T pre post s err x ob) (hb : b < w.heap.size) (v0 v1 v2 v3 v4 v5 : Value) :
    EmIn w ((((((W.setCell ⟨w.heap.size + 1, 0, none⟩ v0).setCell ⟨w.heap.size + 1, 1, none⟩ v1).setCell ⟨w.heap.size + 1, 2, none⟩ v2).setCell ⟨w.heap.size + 1, 3, none⟩ v3).setCell ⟨w.heap.size + 1, 4, none⟩ v4).setCell ⟨w.heap.size + 1, 5, none⟩ v5) b T pre post s err x ob :=
  (((((h.set hb 0 v0).set hb 1 v1).set hb 2 v2).set hb 3 v3).set hb 4 v4).set hb 5 v5
/-- What emit's region leaves: beside what it held, a block with the token. -/
structure EmOut (w W : World) (b T : Nat) (pre post : List Value) (s : ByteArray) (err : Value) (x : LSt) (k5 : Nat) (tk : Array Value) : Prop where
  lex : LexAt W b T pre post s err x
  bel : Below w.heap.size w W
  blk : W.heap[w.heap.size]? = some (.cells #[.int .i64 0, .string ⟨#[]⟩, .int .i64 0, .int .i64 0, .int .i64 0, .int .i64 0] 169 (0, 0))
  tok : W.heap[k5]? = some (.cells tk 169 (0, 0))
  ne : b < w.heap.size ∧ w.heap.size < k5
theorem EmOut.new {w W : World} {b T : Nat} {pre post : List Value} {s : ByteArray} {err : Value} {x : LSt} (h : EmIn w W b T pre post s err x (.cells #[.int .i64 0, .string ⟨#[]⟩, .int .i64 0, .int .i64 0, .int .i64 0, .int .i64 0] 169 (0, 0))) (hb : b < w.heap.size) (tk : Array Value) : EmOut w (W.alloc (.cells tk 169)) b T pre post s err x W.heap.size tk :=
  have k := h.alloc (.cells tk 169)
  ⟨k.lex, k.bel, k.blk, heap_alloc_new W _, hb, (Array.getElem?_eq_some_iff.1 h.blk).1⟩
theorem old_tok {W : World} {k t : Nat} {z0 z1 z2 z3 z4 z5 : Value} (h : W.heap[k]? = some (.cells #[z0, z1, z2, z3, z4, z5] t (0, 0))) (v0 v1 v2 v3 v4 v5 : Value) :
    ((((((W.setCell ⟨k, 0, none⟩ v0).setCell ⟨k, 1, none⟩ v1).setCell ⟨k, 2, none⟩ v2).setCell ⟨k, 3, none⟩ v3).setCell ⟨k, 4, none⟩ v4).setCell ⟨k, 5, none⟩ v5).heap[k]? = some (.cells #[v0, v1, v2, v3, v4, v5] t (0, 0)) := by
  simp [World.setCell, Array.getElem?_modify, h]
theorem pos3_calls (w W : World) (b T : Nat) (pre post : List Value) (s : ByteArray) (err : Value) (x : LSt) (ob : Obj) (h : Aside0 (EmIn w W b T pre post s err x ob)) :
    Calls Tryz.prog 140 #[.pointer (some ⟨b, pre.length, none⟩)] W fun e w2 => e = .returned (posV x) ∧ w2.cell? ⟨b, pre.length, none⟩ = some (.string s) ∧ w2.cell? ⟨b, pre.length + 2, none⟩ = some (.int .i64 x.st) ∧ w2.cell? ⟨b, pre.length + 3, none⟩ = some (.int .i64 x.p) ∧ Aside0 (EmIn w w2 b T pre post s err x ob) ∧ Aside0 (Below W.heap.size W w2) := by
  refine (position_calls W b T pre post s err x h.out.lex).mono ?_
  rintro e w2 ⟨rfl, hB⟩
  have hl := h.out.lex.below hB
  exact ⟨rfl, hl.c0, hl.c2, hl.c3, ⟨hl, h.out.bel.trans (hB.mono h.out.bel.size), (hB.block _ (Array.getElem?_eq_some_iff.1 h.out.blk).1).trans h.out.blk⟩, ⟨hB⟩⟩
theorem LexAt.other {w : World} {b T : Nat} {pre post : List Value} {s : ByteArray} {err : Value} {x : LSt} (h : LexAt w b T pre post s err x) {k : Nat} (hk : ¬ b = k) (o : Nat) (v : Value) : LexAt (w.setCell ⟨k, o, none⟩ v) b T pre post s err x :=
  (Below.heap_setCell w ⟨k, o, none⟩ v b hk).trans h
theorem grown_new {w w' : World} {b k : Nat} (h : w.grownBy w' (some b)) (hk : w.heap.size ≤ k) (o : Nat) (v : Value) : w.grownBy (w'.setCell ⟨k, o, none⟩ v) (some b) :=
  ⟨h.os, h.tape, h.output, by have := h.size; simpa [World.setCell] using this, fun i hi hr => (Below.heap_setCell w' ⟨k, o, none⟩ v i (by show i ≠ k; omega)).trans (h.block i hi hr)⟩
def tokC (k : Int) (v : ByteArray) (x : LSt) : Array Value := #[.int .i64 k, .string v, .int .i64 x.st, .int .i64 x.p, .int .i64 x.cl, .int .i64 x.cs]
def tokV (k : Int) (v : ByteArray) (x : LSt) : Value := .agg #[.int .i64 k, .string v, .int .i64 x.st, .int .i64 x.p, .int .i64 x.cl, .int .i64 x.cs]
def emitS (x : LSt) : LSt := { x with st := x.p, cl := x.cs }
set_option maxRecDepth 100000 in
set_option maxHeartbeats 1000000 in
theorem emit_calls (w : World) (b T : Nat) (pre post : List Value) (s : ByteArray) (err : Value) (x : LSt) (k : Int) (h : LexAt w b T pre post s err x) (hk : LOk s x) :
    Calls Tryz.prog 133 #[.pointer (some ⟨b, pre.length, none⟩), .int .i64 k] w fun e w' => e = .returned (tokV k (s.extract x.st.toNat x.p.toNat) x) ∧ LexOut w w' b T pre post s err (emitS x) := by
  have HL := Aside0.mk h
  have hlt := h.lt
  have c0 := h.c0
  have c2 := h.c2
  have c3 := h.c3
  have c5 := h.c5
  have c6 := h.c6
  have f2 := h.free (pre.length + 2)
  have f5 := h.free (pre.length + 5)
  obtain ⟨p0, p1, s0, s1, -, -, -, -, -, -, big⟩ := hk
  have hne : b ≠ w.heap.size := by omega
  clear h
  go_enter Tryz.func133, Tryz.ntmps133
  go_upto_region 1 with (fail)
  go_cut [5] (fun v5 wc => ∃ k5 : Nat, v5 = .pointer (some ⟨k5, 0, none⟩) ∧ Aside0 (EmOut w wc b T pre post s err x k5 (tokC k (s.extract x.st.toNat x.p.toNat) x)))
  case first =>
    go_region_held3 (fun w' => w'.cell? ⟨b, pre.length, none⟩ = some (.string s) ∧ w'.cell? ⟨b, pre.length + 2, none⟩ = some (.int .i64 x.st) ∧ w'.cell? ⟨b, pre.length + 3, none⟩ = some (.int .i64 x.p) ∧ Aside0 (EmIn w w' b T pre post s err x (.cells #[.int .i64 0, .string ⟨#[]⟩, .int .i64 0, .int .i64 0, .int .i64 0, .int .i64 0] 169)))
      (first | (with_reducible exact ⟨(EmIn.set6 g4.out (by have := g4.out.lex.lt; have := HL.out.lt; omega) _ _ _ _ _ _).lex.c0, (EmIn.set6 g4.out (by have := g4.out.lex.lt; have := HL.out.lt; omega) _ _ _ _ _ _).lex.c2, (EmIn.set6 g4.out (by have := g4.out.lex.lt; have := HL.out.lt; omega) _ _ _ _ _ _).lex.c3, ⟨(EmIn.set6 g4.out (by have := g4.out.lex.lt; have := HL.out.lt; omega) _ _ _ _ _ _)⟩⟩) | ((with_reducible refine ⟨?_, ?_, ?_, ?_⟩) <;> (with_reducible assumption)) | (with_reducible exact ⟨(EmIn.start2 HL.out _).lex.c0, (EmIn.start2 HL.out _).lex.c2, (EmIn.start2 HL.out _).lex.c3, ⟨EmIn.start2 HL.out _⟩⟩) | (with_reducible exact ⟨(EmIn.alloc g4.out _).lex.c0, (EmIn.alloc g4.out _).lex.c2, (EmIn.alloc g4.out _).lex.c3, ⟨EmIn.alloc g4.out _⟩⟩) | (with_reducible exact ⟨(EmIn.start HL.out).lex.c0, (EmIn.start HL.out).lex.c2, (EmIn.start HL.out).lex.c3, ⟨EmIn.start HL.out⟩⟩) | (go_loud (fail)))
      (first | (go_at_call 140; (with_reducible refine (pos3_calls w _ b T pre post s err x (.cells #[.int .i64 0, .string ⟨#[]⟩, .int .i64 0, .int .i64 0, .int .i64 0, .int .i64 0] 169) ⟨EmIn.start HL.out⟩).mono ?_); rintro e w2 ⟨rfl, g0, g2, g3, g4, _⟩; unfold posV) | (go_at_call 140; (with_reducible refine (pos3_calls w ((w.alloc (.cells #[.int .i64 0, .string ⟨#[]⟩, .int .i64 0, .int .i64 0, .int .i64 0, .int .i64 0] 169)).alloc (.cells #[.int .i64 0, .string ⟨#[]⟩, .int .i64 0, .int .i64 0, .int .i64 0, .int .i64 0] 169)).drew b T pre post s err x (.cells #[.int .i64 0, .string ⟨#[]⟩, .int .i64 0, .int .i64 0, .int .i64 0, .int .i64 0] 169) ⟨EmIn.start2 HL.out _⟩).mono ?_); rintro e w2 ⟨rfl, g0, g2, g3, g4, g5⟩; unfold posV; have hq5 := (g5.out.block (w.heap.size + 1) (by simp)).trans (heap_two w _ _); obtain ⟨k3, k4⟩ := cells_in hq5))
    all_goals
      go_wp2_with fail
      go_meet
      case rel => unfold tokC; first | (with_reducible exact ⟨_, rfl, ⟨EmOut.new g4.out HL.out.lt _⟩⟩) | (with_reducible refine ⟨_, rfl, ⟨(EmIn.set6 g4.out HL.out.lt _ _ _ _ _ _).lex, (EmIn.set6 g4.out HL.out.lt _ _ _ _ _ _).bel, (EmIn.set6 g4.out HL.out.lt _ _ _ _ _ _).blk, ?_, HL.out.lt, Nat.lt_succ_self _⟩⟩; exact old_tok hq5 _ _ _ _ _ _)
  case rest =>
    obtain ⟨k5, rfl, HE⟩ := hcut
    clear c0 c2 c3 c5 c6 f2 f5
    have c2 := HE.out.lex.c2
    have c3 := HE.out.lex.c3
    have c5 := HE.out.lex.c5
    have c6 := HE.out.lex.c6
    have f2 := HE.out.lex.free (pre.length + 2)
    have f5 := HE.out.lex.free (pre.length + 5)
    obtain ⟨hn1, hn2⟩ := HE.out.ne
    have n1 : ¬ k5 = b := by omega
    have n2 : ¬ w.heap.size = b := by omega
    have n3 : ¬ k5 = w.heap.size := by omega
    have n4 : ¬ b = k5 := by omega
    have n5 : ¬ b = w.heap.size := by omega
    have n6 : ¬ w.heap.size = k5 := by omega
    have hbt := HE.out.tok
    have hbz := HE.out.blk
    have t0 : wc.cell? ⟨k5, 0, none⟩ = some (.int .i64 k) := by rw [Lib.cell_of_heap hbt]; rfl
    have t1 : wc.cell? ⟨k5, 1, none⟩ = some (.string (s.extract x.st.toNat x.p.toNat)) := by rw [Lib.cell_of_heap hbt]; rfl
    have t2 : wc.cell? ⟨k5, 2, none⟩ = some (.int .i64 x.st) := by rw [Lib.cell_of_heap hbt]; rfl
    have t3 : wc.cell? ⟨k5, 3, none⟩ = some (.int .i64 x.p) := by rw [Lib.cell_of_heap hbt]; rfl
    have t4 : wc.cell? ⟨k5, 4, none⟩ = some (.int .i64 x.cl) := by rw [Lib.cell_of_heap hbt]; rfl
    have t5 : wc.cell? ⟨k5, 5, none⟩ = some (.int .i64 x.cs) := by rw [Lib.cell_of_heap hbt]; rfl
    have z0 : wc.cell? ⟨w.heap.size, 0, none⟩ = some (.int .i64 0) := by rw [Lib.cell_of_heap hbz]; rfl
    have z1 : wc.cell? ⟨w.heap.size, 1, none⟩ = some (.string ⟨#[]⟩) := by rw [Lib.cell_of_heap hbz]; rfl
    have z2 : wc.cell? ⟨w.heap.size, 2, none⟩ = some (.int .i64 0) := by rw [Lib.cell_of_heap hbz]; rfl
    have z3 : wc.cell? ⟨w.heap.size, 3, none⟩ = some (.int .i64 0) := by rw [Lib.cell_of_heap hbz]; rfl
    have z4 : wc.cell? ⟨w.heap.size, 4, none⟩ = some (.int .i64 0) := by rw [Lib.cell_of_heap hbz]; rfl
    have z5 : wc.cell? ⟨w.heap.size, 5, none⟩ = some (.int .i64 0) := by rw [Lib.cell_of_heap hbz]; rfl
    have f0 : ∀ j, wc.frozen? ⟨w.heap.size, j, none⟩ = false := fun j => by simp [World.frozen?, hbz]
    clear hbt hbz
    have hb2 : ((wc.setCell ⟨b, pre.length + 2, none⟩ (.int .i64 x.p)).setCell ⟨b, pre.length + 5, none⟩ (.int .i64 x.cs)).heap[w.heap.size]? = some (.cells #[.int .i64 0, .string ⟨#[]⟩, .int .i64 0, .int .i64 0, .int .i64 0, .int .i64 0] 169 (0, 0)) := by
      rw [Below.heap_setCell _ _ _ _ n2, Below.heap_setCell _ _ _ _ n2]
      exact HE.out.blk
    have hb8 := old_tok hb2 (.int .i64 k) (.string (s.extract x.st.toNat x.p.toNat)) (.int .i64 x.st) (.int .i64 x.p) (.int .i64 x.cl) (.int .i64 x.cs)
    have hL2 := (HE.out.lex.set2 x.p).set5 x.cs
    have hG2 := grown_set (grown_set (grownBy_below (World.grownBy.refl w (some b)) HE.out.bel) (pre.length + 2) (.int .i64 x.p)) (pre.length + 5) (.int .i64 x.cs)
    have hL8 := (((((hL2.other n5 0 (.int .i64 k)).other n5 1 (.string (s.extract x.st.toNat x.p.toNat))).other n5 2 (.int .i64 x.st)).other n5 3 (.int .i64 x.p)).other n5 4 (.int .i64 x.cl)).other n5 5 (.int .i64 x.cs)
    have hG8 := grown_new (grown_new (grown_new (grown_new (grown_new (grown_new hG2 (Nat.le_refl _) 0 (.int .i64 k)) (Nat.le_refl _) 1 (.string (s.extract x.st.toNat x.p.toNat))) (Nat.le_refl _) 2 (.int .i64 x.st)) (Nat.le_refl _) 3 (.int .i64 x.p)) (Nat.le_refl _) 4 (.int .i64 x.cl)) (Nat.le_refl _) 5 (.int .i64 x.cs)
    have H8 := Aside0.mk (And.intro hb8 (And.intro hL8 hG8))
    clear hb2 hb8 hL2 hG2 hL8 hG8
    go_wp2
    generalize ((((((((wc.setCell ⟨b, pre.length + 2, none⟩ (.int .i64 x.p)).setCell ⟨b, pre.length + 5, none⟩ (.int .i64 x.cs)).setCell ⟨w.heap.size, 0, none⟩ (.int .i64 k)).setCell ⟨w.heap.size, 1, none⟩ (.string (s.extract x.st.toNat x.p.toNat))).setCell ⟨w.heap.size, 2, none⟩ (.int .i64 x.st)).setCell ⟨w.heap.size, 3, none⟩ (.int .i64 x.p)).setCell ⟨w.heap.size, 4, none⟩ (.int .i64 x.cl)).setCell ⟨w.heap.size, 5, none⟩ (.int .i64 x.cs)) = W at H8 ⊢
    obtain ⟨hb8, hL8, hG8⟩ := H8.out
    have r0 : W.cell? ⟨w.heap.size, 0, none⟩ = some (.int .i64 k) := by rw [Lib.cell_of_heap hb8]; rfl
    have r1 : W.cell? ⟨w.heap.size, 1, none⟩ = some (.string (s.extract x.st.toNat x.p.toNat)) := by rw [Lib.cell_of_heap hb8]; rfl
    have r2 : W.cell? ⟨w.heap.size, 2, none⟩ = some (.int .i64 x.st) := by rw [Lib.cell_of_heap hb8]; rfl
    have r3 : W.cell? ⟨w.heap.size, 3, none⟩ = some (.int .i64 x.p) := by rw [Lib.cell_of_heap hb8]; rfl
    have r4 : W.cell? ⟨w.heap.size, 4, none⟩ = some (.int .i64 x.cl) := by rw [Lib.cell_of_heap hb8]; rfl
    have r5 : W.cell? ⟨w.heap.size, 5, none⟩ = some (.int .i64 x.cs) := by rw [Lib.cell_of_heap hb8]; rfl
    exact bodyPost_ret (v := tokV k (s.extract x.st.toNat x.p.toNat) x) (by simp [results, Tryz.results133, go_sem, tokV, r0, r1, r2, r3, r4, r5]) rfl ⟨rfl, hL8, hG8⟩
end Go.Proofs.YtnnhehlieakedaaGreatDoor.Q
namespace Go.Proofs.YtnnhehlieakedaaGreatDoor.Q
open Go.RowKit Go.Lib Go.Proofs.YtnnhehlieakedaaGreatDoorW.PrintWords Go.Proofs.YtnnhehlieakedaaGreatDoorW.PrintLast Go.Proofs.YtnnhehlieakedaaGreatDoorW.PrintMore
attribute [local go_sem] max2_int min2_int max_two min_two max_three min_three max_four min_four
/-- The characters of a text from a place on. -/
def runesI (s : ByteArray) (pos : Nat) : List Nat := if h : pos < s.size then (Utf8.decode s pos).1 :: runesI s (pos + (Utf8.decode s pos).2) else []
termination_by s.size - pos
decreasing_by have := decode_wide s pos; omega
theorem runesI_go (s : ByteArray) (pos : Nat) (h : pos < s.size) : runesI s pos = (Utf8.decode s pos).1 :: runesI s (pos + (Utf8.decode s pos).2) := by rw [runesI, dif_pos h]
theorem runesI_end (s : ByteArray) (pos : Nat) (h : ¬ pos < s.size) : runesI s pos = [] := by rw [runesI, dif_neg h]
/-- Is a number one of a character. -/
def okR (r : Int) : Bool := decide (r = 65533) || !(decide (r < 0) || decide (1114111 < r) || (decide (55296 ≤ r) && decide (r ≤ 57343)))
/-- Does a text have a character. -/
def hasR (s : ByteArray) (r : Int) : Bool := okR r && (runesI s 0).any fun c => decide ((c : Int) = r)
def IdxIs (s : ByteArray) (r : Int) (w : World) (e : Ending) (w' : World) : Prop := ∃ n : Int, e = .returned (.int .i64 n) ∧ decide (0 ≤ n) = hasR s r ∧ Below w.heap.size w w'
theorem okR_false {r : Int} (h : okR r = false) : r ≠ 65533 ∧ (r < 0 ∨ 1114111 < r ∨ (55296 ≤ r ∧ r ≤ 57343)) := by
  unfold okR at h
  simp at h
  omega
set_option maxRecDepth 100000 in
set_option maxHeartbeats 1000000 in
theorem idx_calls (s : ByteArray) (r : Int) (w : World) : Calls Tryz.prog 157 #[.string s, .int .i32 r] w (IdxIs s r w) := by
  have HBW := Aside0.mk (Below.refl w.heap.size w)
  cases hk : okR r
  · have HO : Aside0 (hasR s r = false) := ⟨by unfold hasR; rw [hk]; rfl⟩
    obtain ⟨h1, h2⟩ := okR_false hk
    have b1 : (r == 65533) = false := beq_eq_false_iff_ne.2 h1
    have b2 : (r != 65533) = true := bne_iff_ne.2 h1
    by_cases h0 : r < 0
    · have d0 : decide (r < 0) = true := decide_eq_true h0
      clear hk h1 h2
      go_enter Tryz.func157, Tryz.ntmps157
      go_wp2
      go_ret
      exact ⟨-1, rfl, by rw [HO.out]; rfl, HBW.out⟩
    · have d0 : decide (r < 0) = false := decide_eq_false h0
      by_cases h3 : 1114111 < r
      · have d3 : decide (1114111 < r) = true := decide_eq_true h3
        clear hk h1 h2
        go_enter Tryz.func157, Tryz.ntmps157
        go_wp2
        go_ret
        exact ⟨-1, rfl, by rw [HO.out]; rfl, HBW.out⟩
      · have d3 : decide (1114111 < r) = false := decide_eq_false h3
        have d4 : decide (55296 ≤ r) = true := decide_eq_true (by omega)
        have d5 : decide (r ≤ 57343) = true := decide_eq_true (by omega)
        clear hk h1 h2
        go_enter Tryz.func157, Tryz.ntmps157
        go_wp2
        go_ret
        exact ⟨-1, rfl, by rw [HO.out]; rfl, HBW.out⟩
  · have HO : Aside0 (hasR s r = (runesI s 0).any fun c => decide ((c : Int) = r)) := ⟨by unfold hasR; rw [hk]; rfl⟩
    have hg : (r != 65533 && (decide (r < 0) || decide (1114111 < r) || (decide (55296 ≤ r) && decide (r ≤ 57343)))) = false := by
      unfold okR at hk
      simp at hk ⊢
      omega
    clear hk
    have hpick : r = 65533 ∨ (¬ r = 65533 ∧ ¬ r < 0 ∧ ¬ 1114111 < r ∧ (¬ 55296 ≤ r ∨ ¬ r ≤ 57343)) := by
      simp at hg
      omega
    clear hg
    rcases hpick with h1 | ⟨h1, h2, h3, h4⟩
    · have b2 : (r != 65533) = false := bne_eq_false_iff_eq.2 h1
      clear h1
      go_enter Tryz.func157, Tryz.ntmps157
      go_wp2
      go_loopw [] (fun w' => ∃ pos : Nat, pos ≤ s.size ∧ Aside0 ((runesI s pos).any (fun c => decide ((c : Int) = r)) = (runesI s 0).any fun c => decide ((c : Int) = r)) ∧ Aside0 (w'.heap[w.heap.size]? = some (.stringIter s pos)) ∧ Aside0 (Below w.heap.size w w')) (fun w' => s.size - w'.iterPos w.heap.size)
      case atStart => exact ⟨0, Nat.zero_le _, ⟨rfl⟩, ⟨World.iter_heap w s 0⟩, ⟨below_alloc HBW.out _⟩⟩
      case round =>
        obtain ⟨pos, hpos, HL, HI, HB⟩ := hrel
        have hm : wr.iterPos w.heap.size = pos := by simp [World.iterPos, HI.out]
        by_cases hp : pos < s.size
        · have hnx : ∀ ty, (Instr.next (.pointer (some ⟨w.heap.size, 0, none⟩)) true ty).run Tryz.prog wr = _ := fun ty => Lib.run_next_any_at wr w.heap.size s pos ty HI.out hp
          have hI2 := Aside0.mk (Lib.iterAt_heap wr w.heap.size s pos (pos + (Utf8.decode s pos).2) HI.out)
          have hB2 := Aside0.mk (Lib.below_iterAt HB.out (Nat.le_refl _) s (pos + (Utf8.decode s pos).2))
          have hf := decode_fits s pos hp
          have HG := Aside0.mk (runesI_go s pos hp)
          have HM := Aside0.mk hm
          clear hm
          generalize hdec : Utf8.decode s pos = d at *
          obtain ⟨c, wd⟩ := d
          simp only at hf hI2 hB2 hnx HG
          have HR : Aside0 (∀ w2 : World, w2.heap[w.heap.size]? = some (.stringIter s (pos + wd)) → s.size - w2.iterPos w.heap.size < s.size - wr.iterPos w.heap.size) := ⟨fun w2 h2 => by
            have h3 : w2.iterPos w.heap.size = pos + wd := by simp [World.iterPos, h2]
            rw [h3, HM.out]
            omega⟩
          clear hdec
          by_cases hc : (c : Int) = r
          · have bc : ((c : Int) == r) = true := beq_iff_eq.2 hc
            have HA : Aside0 (((runesI s 0).any fun c => decide ((c : Int) = r)) = true) := ⟨by rw [← HL.out, HG.out]; simp [hc]⟩
            clear hc
            go_wp2
            go_ret
            exact ⟨(pos : Int), rfl, by rw [HO.out, HA.out]; simp, hB2.out⟩
          · have bc : ((c : Int) == r) = false := beq_eq_false_iff_ne.2 hc
            have HA : Aside0 ((runesI s (pos + wd)).any (fun c => decide ((c : Int) = r)) = (runesI s 0).any fun c => decide ((c : Int) = r)) := ⟨by rw [← HL.out, HG.out]; simp [hc]⟩
            clear hc
            go_wp2
            go_roundw
            case rel => exact ⟨pos + wd, hf.2, HA, hI2, hB2⟩
            case measure => exact HR.out _ hI2.out
        · have hnx : ∀ ty, (Instr.next (.pointer (some ⟨w.heap.size, 0, none⟩)) true ty).run Tryz.prog wr = _ := fun ty => Lib.run_next_end_at wr w.heap.size s pos ty HI.out hp
          have HA : Aside0 (((runesI s 0).any fun c => decide ((c : Int) = r)) = false) := ⟨by rw [← HL.out, runesI_end s pos hp]; rfl⟩
          clear hm hp
          go_wp2
          go_ret
          exact ⟨-1, rfl, by rw [HO.out, HA.out]; rfl, HB.out⟩
    · have b2 : (r != 65533) = true := bne_iff_ne.2 h1
      have d0 : decide (r < 0) = false := decide_eq_false h2
      have d3 : decide (1114111 < r) = false := decide_eq_false h3
      by_cases h5 : 55296 ≤ r
      · have d4 : decide (55296 ≤ r) = true := decide_eq_true h5
        have d5 : decide (r ≤ 57343) = false := decide_eq_false (by omega)
        clear h1 h2 h3 h4 h5
        go_enter Tryz.func157, Tryz.ntmps157
        go_wp2
        go_loopw [] (fun w' => ∃ pos : Nat, pos ≤ s.size ∧ Aside0 ((runesI s pos).any (fun c => decide ((c : Int) = r)) = (runesI s 0).any fun c => decide ((c : Int) = r)) ∧ Aside0 (w'.heap[w.heap.size]? = some (.stringIter s pos)) ∧ Aside0 (Below w.heap.size w w')) (fun w' => s.size - w'.iterPos w.heap.size)
        case atStart => exact ⟨0, Nat.zero_le _, ⟨rfl⟩, ⟨World.iter_heap w s 0⟩, ⟨below_alloc HBW.out _⟩⟩
        case round =>
          obtain ⟨pos, hpos, HL, HI, HB⟩ := hrel
          have hm : wr.iterPos w.heap.size = pos := by simp [World.iterPos, HI.out]
          by_cases hp : pos < s.size
          · have hnx : ∀ ty, (Instr.next (.pointer (some ⟨w.heap.size, 0, none⟩)) true ty).run Tryz.prog wr = _ := fun ty => Lib.run_next_any_at wr w.heap.size s pos ty HI.out hp
            have hI2 := Aside0.mk (Lib.iterAt_heap wr w.heap.size s pos (pos + (Utf8.decode s pos).2) HI.out)
            have hB2 := Aside0.mk (Lib.below_iterAt HB.out (Nat.le_refl _) s (pos + (Utf8.decode s pos).2))
            have hf := decode_fits s pos hp
            have HG := Aside0.mk (runesI_go s pos hp)
            have HM := Aside0.mk hm
            clear hm
            generalize hdec : Utf8.decode s pos = d at *
            obtain ⟨c, wd⟩ := d
            simp only at hf hI2 hB2 hnx HG
            have HR : Aside0 (∀ w2 : World, w2.heap[w.heap.size]? = some (.stringIter s (pos + wd)) → s.size - w2.iterPos w.heap.size < s.size - wr.iterPos w.heap.size) := ⟨fun w2 h2 => by
              have h3 : w2.iterPos w.heap.size = pos + wd := by simp [World.iterPos, h2]
              rw [h3, HM.out]
              omega⟩
            clear hdec
            by_cases hc : (c : Int) = r
            · have bc : ((c : Int) == r) = true := beq_iff_eq.2 hc
              have HA : Aside0 (((runesI s 0).any fun c => decide ((c : Int) = r)) = true) := ⟨by rw [← HL.out, HG.out]; simp [hc]⟩
              clear hc
              go_wp2
              go_ret
              exact ⟨(pos : Int), rfl, by rw [HO.out, HA.out]; simp, hB2.out⟩
            · have bc : ((c : Int) == r) = false := beq_eq_false_iff_ne.2 hc
              have HA : Aside0 ((runesI s (pos + wd)).any (fun c => decide ((c : Int) = r)) = (runesI s 0).any fun c => decide ((c : Int) = r)) := ⟨by rw [← HL.out, HG.out]; simp [hc]⟩
              clear hc
              go_wp2
              go_roundw
              case rel => exact ⟨pos + wd, hf.2, HA, hI2, hB2⟩
              case measure => exact HR.out _ hI2.out
          · have hnx : ∀ ty, (Instr.next (.pointer (some ⟨w.heap.size, 0, none⟩)) true ty).run Tryz.prog wr = _ := fun ty => Lib.run_next_end_at wr w.heap.size s pos ty HI.out hp
            have HA : Aside0 (((runesI s 0).any fun c => decide ((c : Int) = r)) = false) := ⟨by rw [← HL.out, runesI_end s pos hp]; rfl⟩
            clear hm hp
            go_wp2
            go_ret
            exact ⟨-1, rfl, by rw [HO.out, HA.out]; rfl, HB.out⟩
      · have d4 : decide (55296 ≤ r) = false := decide_eq_false h5
        clear h1 h2 h3 h4 h5
        go_enter Tryz.func157, Tryz.ntmps157
        go_wp2
        go_loopw [] (fun w' => ∃ pos : Nat, pos ≤ s.size ∧ Aside0 ((runesI s pos).any (fun c => decide ((c : Int) = r)) = (runesI s 0).any fun c => decide ((c : Int) = r)) ∧ Aside0 (w'.heap[w.heap.size]? = some (.stringIter s pos)) ∧ Aside0 (Below w.heap.size w w')) (fun w' => s.size - w'.iterPos w.heap.size)
        case atStart => exact ⟨0, Nat.zero_le _, ⟨rfl⟩, ⟨World.iter_heap w s 0⟩, ⟨below_alloc HBW.out _⟩⟩
        case round =>
          obtain ⟨pos, hpos, HL, HI, HB⟩ := hrel
          have hm : wr.iterPos w.heap.size = pos := by simp [World.iterPos, HI.out]
          by_cases hp : pos < s.size
          · have hnx : ∀ ty, (Instr.next (.pointer (some ⟨w.heap.size, 0, none⟩)) true ty).run Tryz.prog wr = _ := fun ty => Lib.run_next_any_at wr w.heap.size s pos ty HI.out hp
            have hI2 := Aside0.mk (Lib.iterAt_heap wr w.heap.size s pos (pos + (Utf8.decode s pos).2) HI.out)
            have hB2 := Aside0.mk (Lib.below_iterAt HB.out (Nat.le_refl _) s (pos + (Utf8.decode s pos).2))
            have hf := decode_fits s pos hp
            have HG := Aside0.mk (runesI_go s pos hp)
            have HM := Aside0.mk hm
            clear hm
            generalize hdec : Utf8.decode s pos = d at *
            obtain ⟨c, wd⟩ := d
            simp only at hf hI2 hB2 hnx HG
            have HR : Aside0 (∀ w2 : World, w2.heap[w.heap.size]? = some (.stringIter s (pos + wd)) → s.size - w2.iterPos w.heap.size < s.size - wr.iterPos w.heap.size) := ⟨fun w2 h2 => by
              have h3 : w2.iterPos w.heap.size = pos + wd := by simp [World.iterPos, h2]
              rw [h3, HM.out]
              omega⟩
            clear hdec
            by_cases hc : (c : Int) = r
            · have bc : ((c : Int) == r) = true := beq_iff_eq.2 hc
              have HA : Aside0 (((runesI s 0).any fun c => decide ((c : Int) = r)) = true) := ⟨by rw [← HL.out, HG.out]; simp [hc]⟩
              clear hc
              go_wp2
              go_ret
              exact ⟨(pos : Int), rfl, by rw [HO.out, HA.out]; simp, hB2.out⟩
            · have bc : ((c : Int) == r) = false := beq_eq_false_iff_ne.2 hc
              have HA : Aside0 ((runesI s (pos + wd)).any (fun c => decide ((c : Int) = r)) = (runesI s 0).any fun c => decide ((c : Int) = r)) := ⟨by rw [← HL.out, HG.out]; simp [hc]⟩
              clear hc
              go_wp2
              go_roundw
              case rel => exact ⟨pos + wd, hf.2, HA, hI2, hB2⟩
              case measure => exact HR.out _ hI2.out
          · have hnx : ∀ ty, (Instr.next (.pointer (some ⟨w.heap.size, 0, none⟩)) true ty).run Tryz.prog wr = _ := fun ty => Lib.run_next_end_at wr w.heap.size s pos ty HI.out hp
            have HA : Aside0 (((runesI s 0).any fun c => decide ((c : Int) = r)) = false) := ⟨by rw [← HL.out, runesI_end s pos hp]; rfl⟩
            clear hm hp
            go_wp2
            go_ret
            exact ⟨-1, rfl, by rw [HO.out, HA.out]; rfl, HB.out⟩
end Go.Proofs.YtnnhehlieakedaaGreatDoor.Q
namespace Go.Proofs.YtnnhehlieakedaaGreatDoor.Q
open Go.RowKit Go.Lib Go.Proofs.YtnnhehlieakedaaGreatDoorW.PrintWords Go.Proofs.YtnnhehlieakedaaGreatDoorW.PrintLast Go.Proofs.YtnnhehlieakedaaGreatDoorW.PrintMore
attribute [local go_sem] max2_int min2_int max_two min_two max_three min_three max_four min_four
theorem contains_calls (s : ByteArray) (r : Int) (w : World) : Calls Tryz.prog 153 #[.string s, .int .i32 r] w fun e w' => e = .returned (.bool (hasR s r)) ∧ Below w.heap.size w w' := by
  go_enter Tryz.func153, Tryz.ntmps153
  go_wp2_with fail
  refine (idx_calls s r _).mono ?_
  rintro e w' ⟨n, rfl, hn, hb⟩
  have HN := Aside0.mk hn
  have HB := Aside0.mk hb
  clear hb hn
  go_wp2
  go_ret
  exact ⟨by rw [← HN.out]; rfl, HB.out⟩
def resC : ByteArray := ⟨#[123, 125, 33, 61, 126, 44, 92, 34, 39, 96]⟩
/-- May a character not stand in a word without quotes. -/
def resR (r : Int) : Bool := Lib.isSpaceZ r || hasR resC r
theorem isReserved_calls (r : Int) (w : World) (h0 : -2147483648 ≤ r) (h1 : r ≤ 2147483647) (tb : TBl w) :
    Calls Tryz.prog 137 #[.int .i32 r] w fun e w' => e = .returned (.bool (resR r)) ∧ Below w.heap.size w w' := by
  have HT := Aside0.mk tb
  clear tb
  unfold resR
  cases hs : Lib.isSpaceZ r
  · have HS := Aside0.mk hs
    clear hs
    go_enter Tryz.func137, Tryz.ntmps137
    go_wp2_with (first | (go_at_call 76; refine (Tryz.unicode_IsSpace_any r _ h0 h1 HT.out.2).mono ?_; rintro e w1 ⟨rfl, hb⟩; rw [HS.out]; have HB := Aside0.mk hb; clear hb) | (go_at_call 153; refine (contains_calls resC r _).mono ?_; rintro e w2 ⟨rfl, hb⟩; have HB2 := Aside0.mk (HB.out.trans (hb.mono HB.out.size)); clear hb))
    go_ret
    exact ⟨by simp, HB2.out⟩
  · have HS := Aside0.mk hs
    clear hs
    go_enter Tryz.func137, Tryz.ntmps137
    go_wp2_with (go_at_call 76; refine (Tryz.unicode_IsSpace_any r _ h0 h1 HT.out.2).mono ?_; rintro e w1 ⟨rfl, hb⟩; rw [HS.out]; have HB := Aside0.mk hb; clear hb)
    go_ret
    exact ⟨by simp, HB.out⟩
theorem TBw.below {w w' : World} (h : TBw w) (hb : Below w.heap.size w w') : TBw w' := by
  have k : ∀ a v, w.cell? a = some v → w'.cell? a = some v := fun a v h => (hb.cell (World.block_lt_of_cell? _ _ h)).trans h
  obtain ⟨T, oT, R, oR, h1, h2, h3, h4, h5⟩ := h
  exact ⟨T, oT, R, oR, k _ _ h1, k _ _ h2, k _ _ h3, k _ _ h4, fun i hi => k _ _ (h5 i hi)⟩
theorem TBl.below {w w' : World} (h : TBl w) (hb : Below w.heap.size w w') : TBl w' := ⟨TBu.below h.1 hb, TBw.below h.2 hb⟩
end Go.Proofs.YtnnhehlieakedaaGreatDoor.Q
namespace Go.Proofs.YtnnhehlieakedaaGreatDoor.Q
open Go.RowKit Go.Lib Go.Proofs.YtnnhehlieakedaaGreatDoorW.PrintWords Go.Proofs.YtnnhehlieakedaaGreatDoorW.PrintLast Go.Proofs.YtnnhehlieakedaaGreatDoorW.PrintMore
attribute [local go_sem] max2_int min2_int max_two min_two max_three min_three max_four min_four
/-- A state that the lexer comes to: no more characters than bytes have been read. -/
structure LGd (s : ByteArray) (x : LSt) : Prop where
  p1 : x.p ≤ s.size
  s0 : 0 ≤ x.st
  s1 : x.st ≤ x.p
  w0 : 0 ≤ x.wd
  w1 : x.wd ≤ 4
  c0 : 0 ≤ x.cl
  c1 : x.cl ≤ x.cs
  d1 : x.cs ≤ x.p
  big : s.size ≤ 4294967296
section
variable {s : ByteArray} {x : LSt}
theorem LGd.ok (h : LGd s x) : LOk s x := by
  have := h.p1; have := h.s0; have := h.s1; have := h.c0; have := h.c1; have := h.d1; have := h.big
  exact ⟨by omega, h.p1, h.s0, h.s1, h.w0, h.w1, h.c0, by omega, by omega, by omega, h.big⟩
theorem width4 (s : ByteArray) (p : Nat) : (Utf8.decode s p).2 ≤ 4 := by
  unfold Utf8.decode
  dsimp only
  (repeat' split) <;> simp
theorem LGd.next (h : LGd s x) : LGd s (nextS s x) := by
  have := h.p1; have := h.s0; have := h.s1; have := h.c0; have := h.c1; have := h.d1
  unfold nextS
  split
  · rename_i hp
    have hf := decode_fits s x.p.toNat hp
    have hw4 := width4 s x.p.toNat
    exact ⟨by simp; omega, h.s0, by simp; omega, by simp, by simp; omega, h.c0, by simp; omega, by simp; omega, h.big⟩
  · exact ⟨h.p1, h.s0, h.s1, by simp, by simp, h.c0, h.c1, h.d1, h.big⟩
/-- One character back: the state ahead of it but for the width. -/
theorem back_next (h : LGd s x) : backS (nextS s x) = { x with wd := (nextS s x).wd } := by
  have := h.s0; have := h.s1
  unfold nextS backS
  split
  · rename_i hp
    have hf := decode_fits s x.p.toNat hp
    have e1 : x.p + (Utf8.decode s x.p.toNat).2 - (Utf8.decode s x.p.toNat).2 = x.p := by omega
    simp only [e1]
    rw [if_pos (by omega)]
    have e2 : x.cs + 1 - 1 = x.cs := by omega
    rw [e2]
  · simp
theorem LGd.back (h : LGd s x) : LGd s (backS (nextS s x)) := by
  rw [back_next h]
  exact ⟨h.p1, h.s0, h.s1, h.next.w0, h.next.w1, h.c0, h.c1, h.d1, h.big⟩
theorem LGd.emit (h : LGd s x) : LGd s (emitS x) := by
  have := h.s0; have := h.s1; have := h.c0; have := h.c1
  exact ⟨h.p1, by show 0 ≤ x.p; omega, Int.le_refl _, h.w0, h.w1, by show 0 ≤ x.cs; omega, Int.le_refl _, h.d1, h.big⟩
theorem LGd.skip (h : LGd s x) : LGd s (skipS x) := by
  have := h.s0; have := h.s1; have := h.c0; have := h.c1
  exact ⟨h.p1, by show 0 ≤ x.p; omega, Int.le_refl _, h.w0, h.w1, by show 0 ≤ x.cs; omega, Int.le_refl _, h.d1, h.big⟩
theorem nextR_range (s : ByteArray) (p : Int) : -2147483648 ≤ nextR s p ∧ nextR s p ≤ 2147483647 := by
  unfold nextR
  split
  · have := decode_le s p.toNat; omega
  · omega
theorem nextR_end (h : LGd s x) : nextR s x.p = -1 ↔ x.p = s.size := by
  unfold nextR
  have := h.s0; have := h.s1
  have := h.p1
  split <;> omega
theorem nextS_on (h : LGd s x) (hr : nextR s x.p ≠ -1) : x.p < (nextS s x).p ∧ (nextS s x).st = x.st := by
  have := h.s0; have := h.s1
  unfold nextR at hr
  unfold nextS
  by_cases hp : x.p.toNat < s.size
  · rw [if_pos hp]
    have hf := decode_fits s x.p.toNat hp
    exact ⟨by simp; omega, rfl⟩
  · rw [if_neg hp] at hr
    exact absurd rfl hr
end
/-- The library's tables, in blocks that lie below the lexer's. -/
def TBb (b : Nat) (w : World) : Prop := ∃ w0, TBl w0 ∧ w0.heap.size ≤ b ∧ Below w0.heap.size w0 w
theorem TBb.tbl {b : Nat} {w : World} (h : TBb b w) : TBl w := by
  obtain ⟨w0, h1, _, h3⟩ := h
  exact h1.below h3
theorem TBb.grown {b : Nat} {w w' : World} (h : TBb b w) (hg : w.grownBy w' (some b)) : TBb b w' := by
  obtain ⟨w0, h1, h2, h3⟩ := h
  exact ⟨w0, h1, h2, h3.grown hg h3.size (fun k hk => by injection hk with e; omega)⟩
/-- The lexer in memory, and the tables. -/
structure LX (w : World) (b T : Nat) (pre post : List Value) (s : ByteArray) (err : Value) (x : LSt) : Prop where
  lex : LexAt w b T pre post s err x
  tb : TBb b w
section
variable {w w' w1 w2 : World} {b T : Nat} {pre post : List Value} {s : ByteArray} {err err' : Value} {x y : LSt}
theorem LX.grown (h : LX w b T pre post s err x) (hg : w.grownBy w' (some b)) (hl : LexAt w' b T pre post s err' y) : LX w' b T pre post s err' y := ⟨hl, h.tb.grown hg⟩
theorem LX.out (h : LX w b T pre post s err x) (ho : LexOut w w' b T pre post s err' y) : LX w' b T pre post s err' y := ⟨ho.lex, h.tb.grown ho.grown⟩
theorem LX.below (h : LX w b T pre post s err x) (hb : Below w.heap.size w w') : LX w' b T pre post s err x := ⟨h.lex.below hb, h.tb.grown (grownBy_below (World.grownBy.refl w (some b)) hb)⟩
theorem LX.alloc (h : LX w b T pre post s err x) (o : Obj) : LX (w.alloc o) b T pre post s err x := h.below (below_alloc (Below.refl _ _) _)
theorem LexOut.trans (h : LexOut w w1 b T pre post s err x) (k : LexOut w1 w2 b T pre post s err' y) : LexOut w w2 b T pre post s err' y := ⟨k.lex, h.grown.trans k.grown⟩
theorem LexOut.below (h : LexOut w w1 b T pre post s err x) (hb : Below w1.heap.size w1 w2) : LexOut w w2 b T pre post s err x := ⟨h.lex.below hb, grownBy_below h.grown hb⟩
end
/-- Is the next character among these, and the state behind the question. -/
def acB (s : ByteArray) (x : LSt) (c : ByteArray) : Bool := hasR c (nextR s x.p)
def acS (s : ByteArray) (x : LSt) (c : ByteArray) : LSt := if acB s x c then nextS s x else backS (nextS s x)
theorem LGd.ac {s : ByteArray} {x : LSt} (h : LGd s x) (c : ByteArray) : LGd s (acS s x c) := by
  unfold acS
  split
  · exact h.next
  · exact h.back
set_option maxRecDepth 100000 in
set_option maxHeartbeats 1000000 in
theorem accept_calls (w : World) (b T : Nat) (pre post : List Value) (s : ByteArray) (err : Value) (x : LSt) (c : ByteArray) (r : Bool) (hr : acB s x c = r) (h : LX w b T pre post s err x) (hk : LGd s x) :
    Calls Tryz.prog 151 #[.pointer (some ⟨b, pre.length, none⟩), .string c] w fun e w' => e = .returned (.bool r) ∧ LexOut w w' b T pre post s err (acS s x c) := by
  have HL := Aside0.mk h
  have HK := Aside0.mk hk
  have HR := Aside0.mk hr
  clear h hk hr
  cases r
  · go_enter Tryz.func151, Tryz.ntmps151
    go_wp2_with fail
    refine (next_calls _ b T pre post s err x HL.out.lex HK.out.ok HL.out.tb.tbl).mono ?_
    rintro e w1 ⟨rfl, hO⟩
    have HO := Aside0.mk hO
    clear hO
    go_wp2_with fail
    refine (contains_calls c (nextR s x.p) _).mono ?_
    rintro e w2 ⟨rfl, hb⟩
    have HO2 := Aside0.mk (HO.out.below hb)
    clear hb
    rw [show hasR c (nextR s x.p) = false from HR.out]
    go_wp2_with fail
    refine (rewind_calls _ b T pre post s err _ HO2.out.lex HK.out.next.ok).mono ?_
    rintro e w3 ⟨rfl, hO⟩
    have HO3 := Aside0.mk (HO2.out.trans hO)
    clear hO
    go_wp2
    go_ret
    refine ⟨rfl, ?_⟩
    unfold acS
    rw [HR.out]
    exact HO3.out
  · go_enter Tryz.func151, Tryz.ntmps151
    go_wp2_with fail
    refine (next_calls _ b T pre post s err x HL.out.lex HK.out.ok HL.out.tb.tbl).mono ?_
    rintro e w1 ⟨rfl, hO⟩
    have HO := Aside0.mk hO
    clear hO
    go_wp2_with fail
    refine (contains_calls c (nextR s x.p) _).mono ?_
    rintro e w2 ⟨rfl, hb⟩
    have HO2 := Aside0.mk (HO.out.below hb)
    clear hb
    rw [show hasR c (nextR s x.p) = true from HR.out]
    go_wp2
    go_ret
    refine ⟨rfl, ?_⟩
    unfold acS
    rw [HR.out]
    exact HO2.out
/-- An error of the lexer's. -/
def ErrV (v : Value) : Prop := ∃ t p, v = .iface t p ∧ (t = 229 ∨ t = 231 ∨ t = 202)
def ExpR (r : Bool) (e : Ending) : Prop := ∃ v, e = .returned v ∧ (if r then v = .nilIface else ErrV v)
theorem pos4_calls (w : World) (b T : Nat) (pre post : List Value) (s : ByteArray) (err : Value) (x : LSt) (h : LexAt w b T pre post s err x) :
    Calls Tryz.prog 140 #[.pointer (some ⟨b, pre.length, none⟩)] w fun e w' => e = .returned (posV x) ∧ w'.cell? ⟨b, pre.length, none⟩ = some (.string s) ∧ Aside0 (LexAt w' b T pre post s err x ∧ Below w.heap.size w w') := by
  refine (position_calls w b T pre post s err x h).mono ?_
  rintro e w' ⟨rfl, hB⟩
  exact ⟨rfl, (h.below hB).c0, ⟨h.below hB, hB⟩⟩
set_option maxRecDepth 100000 in
set_option maxHeartbeats 1000000 in
theorem expect_calls (w : World) (b T : Nat) (pre post : List Value) (s : ByteArray) (err : Value) (x : LSt) (c : ByteArray) (h : LX w b T pre post s err x) (hk : LGd s x) :
    Calls Tryz.prog 152 #[.pointer (some ⟨b, pre.length, none⟩), .string c] w fun e w' => ExpR (acB s x c) e ∧ LexOut w w' b T pre post s err (acS s x c) := by
  have HL := Aside0.mk h
  have HK := Aside0.mk hk
  clear h hk
  have HR : Aside0 (∃ r, acB s x c = r) := ⟨_, rfl⟩
  obtain ⟨r, hr⟩ := HR.out
  rw [hr]
  replace HR := Aside0.mk hr
  clear hr
  have hu1 := Tryz.underlying229
  have hu2 := Tryz.underlying167
  cases r
  · go_enter Tryz.func152, Tryz.ntmps152
    go_wp2_with fail
    refine (next_calls _ b T pre post s err x HL.out.lex HK.out.ok HL.out.tb.tbl).mono ?_
    rintro e w1 ⟨rfl, hO⟩
    have HO := Aside0.mk hO
    clear hO
    go_wp2_with fail
    refine (contains_calls c (nextR s x.p) _).mono ?_
    rintro e w2 ⟨rfl, hb⟩
    have HO2 := Aside0.mk (HO.out.below hb)
    clear hb
    rw [show hasR c (nextR s x.p) = false from HR.out]
    go_wp2_with fail
    refine (rewind_calls _ b T pre post s err _ HO2.out.lex HK.out.next.ok).mono ?_
    rintro e w3 ⟨rfl, hO⟩
    have HO3 := Aside0.mk (HO2.out.trans hO)
    clear hO HO HO2
    go_wp2_with fail
    have HS0 : Aside0 (LexAt w3.drew b T pre post s err (backS (nextS s x)) ∧ w.grownBy w3.drew (some b)) := ⟨HO3.out.lex.below (below_drew (Below.refl _ _)), HO3.out.grown.trans (grown_drewN 1 _)⟩
    have k0 := HS0.out.1.c0
    go_region_held3 (fun w' => w'.cell? ⟨b, pre.length, none⟩ = some (.string s) ∧ Aside0 (LexAt w' b T pre post s err (backS (nextS s x)) ∧ w.grownBy w' (some b))) (first | (with_reducible exact ⟨k0, HS0⟩) | (with_reducible exact ⟨k1, HS1⟩)) (first | (go_at_call 140; (with_reducible refine (pos4_calls w3.drew b T pre post s err (backS (nextS s x)) HS0.out.1).mono ?_); rintro e w4 ⟨rfl, k1, hx4⟩; unfold posV; have HS1 : Aside0 (LexAt w4 b T pre post s err (backS (nextS s x)) ∧ w.grownBy w4 (some b)) := ⟨hx4.out.1, grownBy_below HS0.out.2 hx4.out.2⟩))
    all_goals
      go_wp2
      go_ret
      refine ⟨⟨_, rfl, ⟨_, _, rfl, Or.inl rfl⟩⟩, ?_⟩
      unfold acS
      rw [HR.out]
      exact ⟨HS1.out.1, HS1.out.2⟩
  · go_enter Tryz.func152, Tryz.ntmps152
    go_wp2_with fail
    refine (next_calls _ b T pre post s err x HL.out.lex HK.out.ok HL.out.tb.tbl).mono ?_
    rintro e w1 ⟨rfl, hO⟩
    have HO := Aside0.mk hO
    clear hO
    go_wp2_with fail
    refine (contains_calls c (nextR s x.p) _).mono ?_
    rintro e w2 ⟨rfl, hb⟩
    have HO2 := Aside0.mk (HO.out.below hb)
    clear hb
    rw [show hasR c (nextR s x.p) = true from HR.out]
    go_wp2
    go_ret
    refine ⟨⟨_, rfl, rfl⟩, ?_⟩
    unfold acS
    rw [HR.out]
    exact HO2.out
end Go.Proofs.YtnnhehlieakedaaGreatDoor.Q
namespace Go.Proofs.YtnnhehlieakedaaGreatDoor.Q
open Go.RowKit Go.Lib Go.Proofs.YtnnhehlieakedaaGreatDoorW.PrintWords Go.Proofs.YtnnhehlieakedaaGreatDoorW.PrintLast Go.Proofs.YtnnhehlieakedaaGreatDoorW.PrintMore
attribute [local go_sem] max2_int min2_int max_two min_two max_three min_three max_four min_four
section
variable {w W w' : World} {b T : Nat} {pre post : List Value} {s : ByteArray} {err : Value} {x y : LSt}
theorem tok_cells (hO : LexOut (w.alloc (.cells #[.int .i64 0, .string ⟨#[]⟩, .int .i64 0, .int .i64 0, .int .i64 0, .int .i64 0] 169)) W b T pre post s err y) (hb : b < w.heap.size) : W.heap[w.heap.size]? = some (.cells #[.int .i64 0, .string ⟨#[]⟩, .int .i64 0, .int .i64 0, .int .i64 0, .int .i64 0] 169 (0, 0)) :=
  (hO.grown.block w.heap.size (by simp) (by intro e; injection e with e; omega)).trans (heap_alloc_new w _)
theorem tok_done (hO : LexOut (w.alloc (.cells #[.int .i64 0, .string ⟨#[]⟩, .int .i64 0, .int .i64 0, .int .i64 0, .int .i64 0] 169)) W b T pre post s err y) (hb : b < w.heap.size) (v0 v1 v2 v3 v4 v5 : Value) :
    LexOut w ((((((W.setCell ⟨w.heap.size, 0, none⟩ v0).setCell ⟨w.heap.size, 1, none⟩ v1).setCell ⟨w.heap.size, 2, none⟩ v2).setCell ⟨w.heap.size, 3, none⟩ v3).setCell ⟨w.heap.size, 4, none⟩ v4).setCell ⟨w.heap.size, 5, none⟩ v5) b T pre post s err y ∧
    ((((((W.setCell ⟨w.heap.size, 0, none⟩ v0).setCell ⟨w.heap.size, 1, none⟩ v1).setCell ⟨w.heap.size, 2, none⟩ v2).setCell ⟨w.heap.size, 3, none⟩ v3).setCell ⟨w.heap.size, 4, none⟩ v4).setCell ⟨w.heap.size, 5, none⟩ v5).heap[w.heap.size]? = some (.cells #[v0, v1, v2, v3, v4, v5] 169 (0, 0)) := by
  have n5 : ¬ b = w.heap.size := by omega
  have hG : w.grownBy W (some b) := (World.grownBy_alloc w _ (some b)).trans hO.grown
  exact ⟨⟨(((((hO.lex.other n5 0 v0).other n5 1 v1).other n5 2 v2).other n5 3 v3).other n5 4 v4).other n5 5 v5,
    grown_new (grown_new (grown_new (grown_new (grown_new (grown_new hG (Nat.le_refl _) 0 v0) (Nat.le_refl _) 1 v1) (Nat.le_refl _) 2 v2) (Nat.le_refl _) 3 v3) (Nat.le_refl _) 4 v4) (Nat.le_refl _) 5 v5⟩, old_tok (tok_cells hO hb) v0 v1 v2 v3 v4 v5⟩
theorem LX.startZ (h : LX w b T pre post s err x) : LX (w.alloc (.cells #[.int .i64 0, .string ⟨#[]⟩, .int .i64 0, .int .i64 0, .int .i64 0, .int .i64 0] 169)) b T pre post s err x ∧ LexOut (w.alloc (.cells #[.int .i64 0, .string ⟨#[]⟩, .int .i64 0, .int .i64 0, .int .i64 0, .int .i64 0] 169)) (w.alloc (.cells #[.int .i64 0, .string ⟨#[]⟩, .int .i64 0, .int .i64 0, .int .i64 0, .int .i64 0] 169)) b T pre post s err x := ⟨h.alloc _, (h.alloc _).lex, World.grownBy.refl _ _⟩
end
/-- The lexer as named, and a result of zeros in its block. -/
structure TZ (w W : World) (b T : Nat) (pre post : List Value) (s : ByteArray) (err : Value) (y : LSt) : Prop where
  lex : LexAt W b T pre post s err y
  gr : w.grownBy W (some b)
  blk : W.heap[w.heap.size]? = some (.cells #[.int .i64 0, .string ⟨#[]⟩, .int .i64 0, .int .i64 0, .int .i64 0, .int .i64 0] 169 (0, 0))
section
variable {w W w' : World} {b T : Nat} {pre post : List Value} {s : ByteArray} {err : Value} {x y : LSt}
theorem TZ.of (hO : LexOut (w.alloc (.cells #[.int .i64 0, .string ⟨#[]⟩, .int .i64 0, .int .i64 0, .int .i64 0, .int .i64 0] 169)) W b T pre post s err y) (hb : b < w.heap.size) : TZ w W b T pre post s err y :=
  ⟨hO.lex, (World.grownBy_alloc w _ (some b)).trans hO.grown, tok_cells hO hb⟩
theorem TZ.below (h : TZ w W b T pre post s err y) (hb : Below W.heap.size W w') : TZ w w' b T pre post s err y :=
  ⟨h.lex.below hb, grownBy_below h.gr hb, (hb.block _ (Array.getElem?_eq_some_iff.1 h.blk).1).trans h.blk⟩
theorem TZ.set6 (h : TZ w W b T pre post s err y) (hb : b < w.heap.size) (v0 v1 v2 v3 v4 v5 : Value) :
    LexOut w ((((((W.setCell ⟨w.heap.size, 0, none⟩ v0).setCell ⟨w.heap.size, 1, none⟩ v1).setCell ⟨w.heap.size, 2, none⟩ v2).setCell ⟨w.heap.size, 3, none⟩ v3).setCell ⟨w.heap.size, 4, none⟩ v4).setCell ⟨w.heap.size, 5, none⟩ v5) b T pre post s err y ∧
    ((((((W.setCell ⟨w.heap.size, 0, none⟩ v0).setCell ⟨w.heap.size, 1, none⟩ v1).setCell ⟨w.heap.size, 2, none⟩ v2).setCell ⟨w.heap.size, 3, none⟩ v3).setCell ⟨w.heap.size, 4, none⟩ v4).setCell ⟨w.heap.size, 5, none⟩ v5).heap[w.heap.size]? = some (.cells #[v0, v1, v2, v3, v4, v5] 169 (0, 0)) := by
  have n5 : ¬ b = w.heap.size := by omega
  exact ⟨⟨(((((h.lex.other n5 0 v0).other n5 1 v1).other n5 2 v2).other n5 3 v3).other n5 4 v4).other n5 5 v5,
    grown_new (grown_new (grown_new (grown_new (grown_new (grown_new h.gr (Nat.le_refl _) 0 v0) (Nat.le_refl _) 1 v1) (Nat.le_refl _) 2 v2) (Nat.le_refl _) 3 v3) (Nat.le_refl _) 4 v4) (Nat.le_refl _) 5 v5⟩, old_tok h.blk v0 v1 v2 v3 v4 v5⟩
theorem TZ.zero6 (h : TZ w W b T pre post s err y) (hb : b < w.heap.size) :
    TZ w ((((((W.setCell ⟨w.heap.size, 0, none⟩ (.int .i64 0)).setCell ⟨w.heap.size, 1, none⟩ (.string ⟨#[]⟩)).setCell ⟨w.heap.size, 2, none⟩ (.int .i64 0)).setCell ⟨w.heap.size, 3, none⟩ (.int .i64 0)).setCell ⟨w.heap.size, 4, none⟩ (.int .i64 0)).setCell ⟨w.heap.size, 5, none⟩ (.int .i64 0)) b T pre post s err y :=
  ⟨(h.set6 hb _ _ _ _ _ _).1.lex, (h.set6 hb _ _ _ _ _ _).1.grown, (h.set6 hb _ _ _ _ _ _).2⟩
theorem TZ.facts (h : TZ w W b T pre post s err y) : W.cell? ⟨b, pre.length, none⟩ = some (.string s) ∧ W.cell? ⟨w.heap.size, 0, none⟩ = some (.int .i64 0) ∧ W.cell? ⟨w.heap.size, 1, none⟩ = some (.string ⟨#[]⟩) ∧ W.cell? ⟨w.heap.size, 2, none⟩ = some (.int .i64 0) ∧ W.cell? ⟨w.heap.size, 3, none⟩ = some (.int .i64 0) ∧ W.cell? ⟨w.heap.size, 4, none⟩ = some (.int .i64 0) ∧ W.cell? ⟨w.heap.size, 5, none⟩ = some (.int .i64 0) ∧ (∀ j, W.frozen? ⟨w.heap.size, j, none⟩ = false) ∧ Aside0 (TZ w W b T pre post s err y) := by
  obtain ⟨hc, hf⟩ := cells_in h.blk
  exact ⟨h.lex.c0, hc 0, hc 1, hc 2, hc 3, hc 4, hc 5, hf, ⟨h⟩⟩
theorem pos5_calls (w W : World) (b T : Nat) (pre post : List Value) (s : ByteArray) (err : Value) (y : LSt) (h : TZ w W b T pre post s err y) :
    Calls Tryz.prog 140 #[.pointer (some ⟨b, pre.length, none⟩)] W fun e w' => e = .returned (posV y) ∧ Aside0 (TZ w w' b T pre post s err y) := by
  refine (position_calls W b T pre post s err y h.lex).mono ?_
  rintro e w' ⟨rfl, hB⟩
  exact ⟨rfl, ⟨h.below hB⟩⟩
end
def tok0 : Value := .agg #[.int .i64 0, .string ⟨#[]⟩, .int .i64 0, .int .i64 0, .int .i64 0, .int .i64 0]
/-- What a scanning function hands back: a token of a kind, or an error. -/
def resE (o : Option Int) (s : ByteArray) (y : LSt) (e : Ending) : Prop := match o with
  | some k => e = .returned (.tuple #[tokV k (s.extract y.st.toNat y.p.toNat) y, .nilIface])
  | none => ∃ ev, e = .returned (.tuple #[tok0, ev]) ∧ ErrV ev
def resS (o : Option Int) (y : LSt) : LSt := match o with
  | some _ => emitS y
  | none => y
def opF (s : ByteArray) (x : LSt) : Option Int × LSt :=
  if acB s x ⟨#[33]⟩ then
    if acB s (acS s x ⟨#[33]⟩) ⟨#[61]⟩ then (some 5, acS s (acS s x ⟨#[33]⟩) ⟨#[61]⟩)
    else if acB s (acS s (acS s x ⟨#[33]⟩) ⟨#[61]⟩) ⟨#[126]⟩ then (some 7, acS s (acS s (acS s x ⟨#[33]⟩) ⟨#[61]⟩) ⟨#[126]⟩) else (none, acS s (acS s (acS s x ⟨#[33]⟩) ⟨#[61]⟩) ⟨#[126]⟩)
  else if acB s (acS s x ⟨#[33]⟩) ⟨#[61]⟩ then
    if acB s (acS s (acS s x ⟨#[33]⟩) ⟨#[61]⟩) ⟨#[126]⟩ then (some 6, acS s (acS s (acS s x ⟨#[33]⟩) ⟨#[61]⟩) ⟨#[126]⟩) else (some 4, acS s (acS s (acS s x ⟨#[33]⟩) ⟨#[61]⟩) ⟨#[126]⟩)
  else (none, acS s (acS s x ⟨#[33]⟩) ⟨#[61]⟩)
theorem accept2_calls (w : World) (b T : Nat) (pre post : List Value) (s : ByteArray) (err : Value) (x y : LSt) (c : ByteArray) (r : Bool) (hr : acB s x c = r) (hy : acS s x c = y) (h : LX w b T pre post s err x) (hk : LGd s x) :
    Calls Tryz.prog 151 #[.pointer (some ⟨b, pre.length, none⟩), .string c] w fun e w' => e = .returned (.bool r) ∧ LexOut w w' b T pre post s err y := by
  subst hy
  exact accept_calls w b T pre post s err x c r hr h hk
set_option maxRecDepth 100000 in
set_option maxHeartbeats 4000000 in
theorem scanOperator_calls (w : World) (b T : Nat) (pre post : List Value) (s : ByteArray) (err : Value) (x : LSt) (h : LX w b T pre post s err x) (hk : LGd s x) :
    Calls Tryz.prog 135 #[.pointer (some ⟨b, pre.length, none⟩)] w fun e w' => resE (opF s x).1 s (opF s x).2 e ∧ LexOut w w' b T pre post s err (resS (opF s x).1 (opF s x).2) := by
  have HL := Aside0.mk h
  have HK1 := Aside0.mk hk
  have HL1 := Aside0.mk h.startZ
  have HK2 := Aside0.mk (hk.ac ⟨#[33]⟩)
  have HK3 := Aside0.mk (HK2.out.ac ⟨#[61]⟩)
  have HK4 := Aside0.mk (HK3.out.ac ⟨#[126]⟩)
  clear h hk
  have hu0 := Tryz.underlying169
  have hu1 := Tryz.underlying229
  have hu2 := Tryz.underlying167
  unfold opF
  obtain ⟨y1, hy1⟩ : ∃ y, acS s x ⟨#[33]⟩ = y := ⟨_, rfl⟩
  rw [hy1] at HK2 HK3 HK4 ⊢
  obtain ⟨y2, hy2⟩ : ∃ y, acS s y1 ⟨#[61]⟩ = y := ⟨_, rfl⟩
  rw [hy2] at HK3 HK4 ⊢
  obtain ⟨y3, hy3⟩ : ∃ y, acS s y2 ⟨#[126]⟩ = y := ⟨_, rfl⟩
  rw [hy3] at HK4 ⊢
  have HY1 := Aside0.mk hy1
  have HY2 := Aside0.mk hy2
  have HY3 := Aside0.mk hy3
  clear hy1 hy2 hy3
  cases hq1 : acB s x ⟨#[33]⟩ <;> cases hq2 : acB s y1 ⟨#[61]⟩ <;> cases hq3 : acB s y2 ⟨#[126]⟩
  all_goals
    have HQ1 := Aside0.mk hq1
    have HQ2 := Aside0.mk hq2
    have HQ3 := Aside0.mk hq3
    clear hq1 hq2 hq3
    simp only [Bool.false_eq_true, if_true, if_false]
  · skip
    go_enter Tryz.func135, Tryz.ntmps135
    go_wp2_with fail
    refine (accept2_calls _ b T pre post s err _ _ _ _ HQ1.out HY1.out HL1.out.1 HK1.out).mono ?_
    rintro e W ⟨rfl, hO⟩
    have HO := Aside0.mk (HL1.out.2.trans hO)
    have HL2 := Aside0.mk (And.intro (HL1.out.1.out hO) HO.out)
    clear hO
    go_wp2_with fail
    refine (accept2_calls _ b T pre post s err _ _ _ _ HQ2.out HY2.out HL2.out.1 HK2.out).mono ?_
    rintro e W ⟨rfl, hO⟩
    have HO := Aside0.mk (HL2.out.2.trans hO)
    have HL3 := Aside0.mk (And.intro (HL2.out.1.out hO) HO.out)
    clear hO
    go_wp2_with fail
    have hlt := HL.out.lex.lt
    have HT0 : Aside0 (TZ w W.drew b T pre post s err y2) := ⟨(TZ.of HO.out HL.out.lex.lt).below (below_drew (Below.refl _ _))⟩
    clear HL1 HO
    go_region_held3 (fun W => W.cell? ⟨b, pre.length, none⟩ = some (.string s) ∧ W.cell? ⟨w.heap.size, 0, none⟩ = some (.int .i64 0) ∧ W.cell? ⟨w.heap.size, 1, none⟩ = some (.string ⟨#[]⟩) ∧ W.cell? ⟨w.heap.size, 2, none⟩ = some (.int .i64 0) ∧ W.cell? ⟨w.heap.size, 3, none⟩ = some (.int .i64 0) ∧ W.cell? ⟨w.heap.size, 4, none⟩ = some (.int .i64 0) ∧ W.cell? ⟨w.heap.size, 5, none⟩ = some (.int .i64 0) ∧ (∀ j, W.frozen? ⟨w.heap.size, j, none⟩ = false) ∧ Aside0 (TZ w W b T pre post s err y2)) (first | (with_reducible exact HT0.out.facts) | (with_reducible exact HT1.out.facts) | (with_reducible exact (HT1.out.zero6 hlt).facts)) (first | (go_at_call 140; (with_reducible refine (pos5_calls w W.drew b T pre post s err y2 HT0.out).mono ?_); rintro e w4 ⟨rfl, HT1⟩; unfold posV))
    go_wp2
    have HT2 := HT1.out.zero6 hlt
    obtain ⟨_, r0, r1, r2, r3, r4, r5, _, _⟩ := HT2.facts
    exact bodyPost_ret (v := .tuple #[tok0, .iface 229 (.agg #[.int .i64 y2.st, .int .i64 y2.p, .int .i64 y2.cl, .int .i64 y2.cs, .string s, .string ⟨#[33, 61]⟩])]) (by simp [results, Tryz.results135, go_sem, tok0, r0, r1, r2, r3, r4, r5]) rfl ⟨⟨_, rfl, ⟨_, _, rfl, Or.inl rfl⟩⟩, ⟨HT2.lex, HT2.gr⟩⟩
  · skip
    go_enter Tryz.func135, Tryz.ntmps135
    go_wp2_with fail
    refine (accept2_calls _ b T pre post s err _ _ _ _ HQ1.out HY1.out HL1.out.1 HK1.out).mono ?_
    rintro e W ⟨rfl, hO⟩
    have HO := Aside0.mk (HL1.out.2.trans hO)
    have HL2 := Aside0.mk (And.intro (HL1.out.1.out hO) HO.out)
    clear hO
    go_wp2_with fail
    refine (accept2_calls _ b T pre post s err _ _ _ _ HQ2.out HY2.out HL2.out.1 HK2.out).mono ?_
    rintro e W ⟨rfl, hO⟩
    have HO := Aside0.mk (HL2.out.2.trans hO)
    have HL3 := Aside0.mk (And.intro (HL2.out.1.out hO) HO.out)
    clear hO
    go_wp2_with fail
    have hlt := HL.out.lex.lt
    have HT0 : Aside0 (TZ w W.drew b T pre post s err y2) := ⟨(TZ.of HO.out HL.out.lex.lt).below (below_drew (Below.refl _ _))⟩
    clear HL1 HO
    go_region_held3 (fun W => W.cell? ⟨b, pre.length, none⟩ = some (.string s) ∧ W.cell? ⟨w.heap.size, 0, none⟩ = some (.int .i64 0) ∧ W.cell? ⟨w.heap.size, 1, none⟩ = some (.string ⟨#[]⟩) ∧ W.cell? ⟨w.heap.size, 2, none⟩ = some (.int .i64 0) ∧ W.cell? ⟨w.heap.size, 3, none⟩ = some (.int .i64 0) ∧ W.cell? ⟨w.heap.size, 4, none⟩ = some (.int .i64 0) ∧ W.cell? ⟨w.heap.size, 5, none⟩ = some (.int .i64 0) ∧ (∀ j, W.frozen? ⟨w.heap.size, j, none⟩ = false) ∧ Aside0 (TZ w W b T pre post s err y2)) (first | (with_reducible exact HT0.out.facts) | (with_reducible exact HT1.out.facts) | (with_reducible exact (HT1.out.zero6 hlt).facts)) (first | (go_at_call 140; (with_reducible refine (pos5_calls w W.drew b T pre post s err y2 HT0.out).mono ?_); rintro e w4 ⟨rfl, HT1⟩; unfold posV))
    go_wp2
    have HT2 := HT1.out.zero6 hlt
    obtain ⟨_, r0, r1, r2, r3, r4, r5, _, _⟩ := HT2.facts
    exact bodyPost_ret (v := .tuple #[tok0, .iface 229 (.agg #[.int .i64 y2.st, .int .i64 y2.p, .int .i64 y2.cl, .int .i64 y2.cs, .string s, .string ⟨#[33, 61]⟩])]) (by simp [results, Tryz.results135, go_sem, tok0, r0, r1, r2, r3, r4, r5]) rfl ⟨⟨_, rfl, ⟨_, _, rfl, Or.inl rfl⟩⟩, ⟨HT2.lex, HT2.gr⟩⟩
  · skip
    go_enter Tryz.func135, Tryz.ntmps135
    go_wp2_with fail
    refine (accept2_calls _ b T pre post s err _ _ _ _ HQ1.out HY1.out HL1.out.1 HK1.out).mono ?_
    rintro e W ⟨rfl, hO⟩
    have HO := Aside0.mk (HL1.out.2.trans hO)
    have HL2 := Aside0.mk (And.intro (HL1.out.1.out hO) HO.out)
    clear hO
    go_wp2_with fail
    refine (accept2_calls _ b T pre post s err _ _ _ _ HQ2.out HY2.out HL2.out.1 HK2.out).mono ?_
    rintro e W ⟨rfl, hO⟩
    have HO := Aside0.mk (HL2.out.2.trans hO)
    have HL3 := Aside0.mk (And.intro (HL2.out.1.out hO) HO.out)
    clear hO
    go_wp2_with fail
    refine (accept2_calls _ b T pre post s err _ _ _ _ HQ3.out HY3.out HL3.out.1 HK3.out).mono ?_
    rintro e W ⟨rfl, hO⟩
    have HO := Aside0.mk (HL3.out.2.trans hO)
    have HL4 := Aside0.mk (And.intro (HL3.out.1.out hO) HO.out)
    clear hO
    go_wp2_with fail
    refine (emit_calls _ b T pre post s err _ 4 HL4.out.1.lex HK4.out.ok).mono ?_
    rintro e W ⟨rfl, hO⟩
    have HO := Aside0.mk (HL4.out.2.trans hO)
    clear hO
    unfold tokV
    have hbz := tok_cells HO.out HL.out.lex.lt
    obtain ⟨hcz, hfz⟩ := cells_in hbz
    have z0 : W.cell? ⟨w.heap.size, 0, none⟩ = some (.int .i64 0) := hcz 0
    have z1 : W.cell? ⟨w.heap.size, 1, none⟩ = some (.string ⟨#[]⟩) := hcz 1
    have z2 : W.cell? ⟨w.heap.size, 2, none⟩ = some (.int .i64 0) := hcz 2
    have z3 : W.cell? ⟨w.heap.size, 3, none⟩ = some (.int .i64 0) := hcz 3
    have z4 : W.cell? ⟨w.heap.size, 4, none⟩ = some (.int .i64 0) := hcz 4
    have z5 : W.cell? ⟨w.heap.size, 5, none⟩ = some (.int .i64 0) := hcz 5
    clear hbz hcz
    have H8 := Aside0.mk (tok_done HO.out HL.out.lex.lt (.int .i64 4) (.string (s.extract y3.st.toNat y3.p.toNat)) (.int .i64 y3.st) (.int .i64 y3.p) (.int .i64 y3.cl) (.int .i64 y3.cs))
    go_wp2
    generalize ((((((W.setCell ⟨w.heap.size, 0, none⟩ (.int .i64 4)).setCell ⟨w.heap.size, 1, none⟩ (.string (s.extract y3.st.toNat y3.p.toNat))).setCell ⟨w.heap.size, 2, none⟩ (.int .i64 y3.st)).setCell ⟨w.heap.size, 3, none⟩ (.int .i64 y3.p)).setCell ⟨w.heap.size, 4, none⟩ (.int .i64 y3.cl)).setCell ⟨w.heap.size, 5, none⟩ (.int .i64 y3.cs)) = W6 at H8 ⊢
    obtain ⟨hc8, _⟩ := cells_in H8.out.2
    have r0 := hc8 0
    have r1 := hc8 1
    have r2 := hc8 2
    have r3 := hc8 3
    have r4 := hc8 4
    have r5 := hc8 5
    simp only [List.getElem?_toArray, List.getElem?_cons_zero, List.getElem?_cons_succ] at r0 r1 r2 r3 r4 r5
    exact bodyPost_ret (v := .tuple #[tokV 4 (s.extract y3.st.toNat y3.p.toNat) y3, .nilIface]) (by simp [results, Tryz.results135, go_sem, tokV, r0, r1, r2, r3, r4, r5]) rfl ⟨rfl, H8.out.1⟩
  · skip
    go_enter Tryz.func135, Tryz.ntmps135
    go_wp2_with fail
    refine (accept2_calls _ b T pre post s err _ _ _ _ HQ1.out HY1.out HL1.out.1 HK1.out).mono ?_
    rintro e W ⟨rfl, hO⟩
    have HO := Aside0.mk (HL1.out.2.trans hO)
    have HL2 := Aside0.mk (And.intro (HL1.out.1.out hO) HO.out)
    clear hO
    go_wp2_with fail
    refine (accept2_calls _ b T pre post s err _ _ _ _ HQ2.out HY2.out HL2.out.1 HK2.out).mono ?_
    rintro e W ⟨rfl, hO⟩
    have HO := Aside0.mk (HL2.out.2.trans hO)
    have HL3 := Aside0.mk (And.intro (HL2.out.1.out hO) HO.out)
    clear hO
    go_wp2_with fail
    refine (accept2_calls _ b T pre post s err _ _ _ _ HQ3.out HY3.out HL3.out.1 HK3.out).mono ?_
    rintro e W ⟨rfl, hO⟩
    have HO := Aside0.mk (HL3.out.2.trans hO)
    have HL4 := Aside0.mk (And.intro (HL3.out.1.out hO) HO.out)
    clear hO
    go_wp2_with fail
    refine (emit_calls _ b T pre post s err _ 6 HL4.out.1.lex HK4.out.ok).mono ?_
    rintro e W ⟨rfl, hO⟩
    have HO := Aside0.mk (HL4.out.2.trans hO)
    clear hO
    unfold tokV
    have hbz := tok_cells HO.out HL.out.lex.lt
    obtain ⟨hcz, hfz⟩ := cells_in hbz
    have z0 : W.cell? ⟨w.heap.size, 0, none⟩ = some (.int .i64 0) := hcz 0
    have z1 : W.cell? ⟨w.heap.size, 1, none⟩ = some (.string ⟨#[]⟩) := hcz 1
    have z2 : W.cell? ⟨w.heap.size, 2, none⟩ = some (.int .i64 0) := hcz 2
    have z3 : W.cell? ⟨w.heap.size, 3, none⟩ = some (.int .i64 0) := hcz 3
    have z4 : W.cell? ⟨w.heap.size, 4, none⟩ = some (.int .i64 0) := hcz 4
    have z5 : W.cell? ⟨w.heap.size, 5, none⟩ = some (.int .i64 0) := hcz 5
    clear hbz hcz
    have H8 := Aside0.mk (tok_done HO.out HL.out.lex.lt (.int .i64 6) (.string (s.extract y3.st.toNat y3.p.toNat)) (.int .i64 y3.st) (.int .i64 y3.p) (.int .i64 y3.cl) (.int .i64 y3.cs))
    go_wp2
    generalize ((((((W.setCell ⟨w.heap.size, 0, none⟩ (.int .i64 6)).setCell ⟨w.heap.size, 1, none⟩ (.string (s.extract y3.st.toNat y3.p.toNat))).setCell ⟨w.heap.size, 2, none⟩ (.int .i64 y3.st)).setCell ⟨w.heap.size, 3, none⟩ (.int .i64 y3.p)).setCell ⟨w.heap.size, 4, none⟩ (.int .i64 y3.cl)).setCell ⟨w.heap.size, 5, none⟩ (.int .i64 y3.cs)) = W6 at H8 ⊢
    obtain ⟨hc8, _⟩ := cells_in H8.out.2
    have r0 := hc8 0
    have r1 := hc8 1
    have r2 := hc8 2
    have r3 := hc8 3
    have r4 := hc8 4
    have r5 := hc8 5
    simp only [List.getElem?_toArray, List.getElem?_cons_zero, List.getElem?_cons_succ] at r0 r1 r2 r3 r4 r5
    exact bodyPost_ret (v := .tuple #[tokV 6 (s.extract y3.st.toNat y3.p.toNat) y3, .nilIface]) (by simp [results, Tryz.results135, go_sem, tokV, r0, r1, r2, r3, r4, r5]) rfl ⟨rfl, H8.out.1⟩
  · skip
    go_enter Tryz.func135, Tryz.ntmps135
    go_wp2_with fail
    refine (accept2_calls _ b T pre post s err _ _ _ _ HQ1.out HY1.out HL1.out.1 HK1.out).mono ?_
    rintro e W ⟨rfl, hO⟩
    have HO := Aside0.mk (HL1.out.2.trans hO)
    have HL2 := Aside0.mk (And.intro (HL1.out.1.out hO) HO.out)
    clear hO
    go_wp2_with fail
    refine (accept2_calls _ b T pre post s err _ _ _ _ HQ2.out HY2.out HL2.out.1 HK2.out).mono ?_
    rintro e W ⟨rfl, hO⟩
    have HO := Aside0.mk (HL2.out.2.trans hO)
    have HL3 := Aside0.mk (And.intro (HL2.out.1.out hO) HO.out)
    clear hO
    go_wp2_with fail
    refine (accept2_calls _ b T pre post s err _ _ _ _ HQ3.out HY3.out HL3.out.1 HK3.out).mono ?_
    rintro e W ⟨rfl, hO⟩
    have HO := Aside0.mk (HL3.out.2.trans hO)
    have HL4 := Aside0.mk (And.intro (HL3.out.1.out hO) HO.out)
    clear hO
    go_wp2_with fail
    have hlt := HL.out.lex.lt
    have HT0 : Aside0 (TZ w W.drew b T pre post s err y3) := ⟨(TZ.of HO.out HL.out.lex.lt).below (below_drew (Below.refl _ _))⟩
    clear HL1 HO
    go_region_held3 (fun W => W.cell? ⟨b, pre.length, none⟩ = some (.string s) ∧ W.cell? ⟨w.heap.size, 0, none⟩ = some (.int .i64 0) ∧ W.cell? ⟨w.heap.size, 1, none⟩ = some (.string ⟨#[]⟩) ∧ W.cell? ⟨w.heap.size, 2, none⟩ = some (.int .i64 0) ∧ W.cell? ⟨w.heap.size, 3, none⟩ = some (.int .i64 0) ∧ W.cell? ⟨w.heap.size, 4, none⟩ = some (.int .i64 0) ∧ W.cell? ⟨w.heap.size, 5, none⟩ = some (.int .i64 0) ∧ (∀ j, W.frozen? ⟨w.heap.size, j, none⟩ = false) ∧ Aside0 (TZ w W b T pre post s err y3)) (first | (with_reducible exact HT0.out.facts) | (with_reducible exact HT1.out.facts) | (with_reducible exact (HT1.out.zero6 hlt).facts)) (first | (go_at_call 140; (with_reducible refine (pos5_calls w W.drew b T pre post s err y3 HT0.out).mono ?_); rintro e w4 ⟨rfl, HT1⟩; unfold posV))
    go_wp2
    have HT2 := HT1.out.zero6 hlt
    obtain ⟨_, r0, r1, r2, r3, r4, r5, _, _⟩ := HT2.facts
    exact bodyPost_ret (v := .tuple #[tok0, .iface 229 (.agg #[.int .i64 y3.st, .int .i64 y3.p, .int .i64 y3.cl, .int .i64 y3.cs, .string s, .string ⟨#[61, 126]⟩])]) (by simp [results, Tryz.results135, go_sem, tok0, r0, r1, r2, r3, r4, r5]) rfl ⟨⟨_, rfl, ⟨_, _, rfl, Or.inl rfl⟩⟩, ⟨HT2.lex, HT2.gr⟩⟩
  · skip
    go_enter Tryz.func135, Tryz.ntmps135
    go_wp2_with fail
    refine (accept2_calls _ b T pre post s err _ _ _ _ HQ1.out HY1.out HL1.out.1 HK1.out).mono ?_
    rintro e W ⟨rfl, hO⟩
    have HO := Aside0.mk (HL1.out.2.trans hO)
    have HL2 := Aside0.mk (And.intro (HL1.out.1.out hO) HO.out)
    clear hO
    go_wp2_with fail
    refine (accept2_calls _ b T pre post s err _ _ _ _ HQ2.out HY2.out HL2.out.1 HK2.out).mono ?_
    rintro e W ⟨rfl, hO⟩
    have HO := Aside0.mk (HL2.out.2.trans hO)
    have HL3 := Aside0.mk (And.intro (HL2.out.1.out hO) HO.out)
    clear hO
    go_wp2_with fail
    refine (accept2_calls _ b T pre post s err _ _ _ _ HQ3.out HY3.out HL3.out.1 HK3.out).mono ?_
    rintro e W ⟨rfl, hO⟩
    have HO := Aside0.mk (HL3.out.2.trans hO)
    have HL4 := Aside0.mk (And.intro (HL3.out.1.out hO) HO.out)
    clear hO
    go_wp2_with fail
    refine (emit_calls _ b T pre post s err _ 7 HL4.out.1.lex HK4.out.ok).mono ?_
    rintro e W ⟨rfl, hO⟩
    have HO := Aside0.mk (HL4.out.2.trans hO)
    clear hO
    unfold tokV
    have hbz := tok_cells HO.out HL.out.lex.lt
    obtain ⟨hcz, hfz⟩ := cells_in hbz
    have z0 : W.cell? ⟨w.heap.size, 0, none⟩ = some (.int .i64 0) := hcz 0
    have z1 : W.cell? ⟨w.heap.size, 1, none⟩ = some (.string ⟨#[]⟩) := hcz 1
    have z2 : W.cell? ⟨w.heap.size, 2, none⟩ = some (.int .i64 0) := hcz 2
    have z3 : W.cell? ⟨w.heap.size, 3, none⟩ = some (.int .i64 0) := hcz 3
    have z4 : W.cell? ⟨w.heap.size, 4, none⟩ = some (.int .i64 0) := hcz 4
    have z5 : W.cell? ⟨w.heap.size, 5, none⟩ = some (.int .i64 0) := hcz 5
    clear hbz hcz
    have H8 := Aside0.mk (tok_done HO.out HL.out.lex.lt (.int .i64 7) (.string (s.extract y3.st.toNat y3.p.toNat)) (.int .i64 y3.st) (.int .i64 y3.p) (.int .i64 y3.cl) (.int .i64 y3.cs))
    go_wp2
    generalize ((((((W.setCell ⟨w.heap.size, 0, none⟩ (.int .i64 7)).setCell ⟨w.heap.size, 1, none⟩ (.string (s.extract y3.st.toNat y3.p.toNat))).setCell ⟨w.heap.size, 2, none⟩ (.int .i64 y3.st)).setCell ⟨w.heap.size, 3, none⟩ (.int .i64 y3.p)).setCell ⟨w.heap.size, 4, none⟩ (.int .i64 y3.cl)).setCell ⟨w.heap.size, 5, none⟩ (.int .i64 y3.cs)) = W6 at H8 ⊢
    obtain ⟨hc8, _⟩ := cells_in H8.out.2
    have r0 := hc8 0
    have r1 := hc8 1
    have r2 := hc8 2
    have r3 := hc8 3
    have r4 := hc8 4
    have r5 := hc8 5
    simp only [List.getElem?_toArray, List.getElem?_cons_zero, List.getElem?_cons_succ] at r0 r1 r2 r3 r4 r5
    exact bodyPost_ret (v := .tuple #[tokV 7 (s.extract y3.st.toNat y3.p.toNat) y3, .nilIface]) (by simp [results, Tryz.results135, go_sem, tokV, r0, r1, r2, r3, r4, r5]) rfl ⟨rfl, H8.out.1⟩
  · skip
    go_enter Tryz.func135, Tryz.ntmps135
    go_wp2_with fail
    refine (accept2_calls _ b T pre post s err _ _ _ _ HQ1.out HY1.out HL1.out.1 HK1.out).mono ?_
    rintro e W ⟨rfl, hO⟩
    have HO := Aside0.mk (HL1.out.2.trans hO)
    have HL2 := Aside0.mk (And.intro (HL1.out.1.out hO) HO.out)
    clear hO
    go_wp2_with fail
    refine (accept2_calls _ b T pre post s err _ _ _ _ HQ2.out HY2.out HL2.out.1 HK2.out).mono ?_
    rintro e W ⟨rfl, hO⟩
    have HO := Aside0.mk (HL2.out.2.trans hO)
    have HL3 := Aside0.mk (And.intro (HL2.out.1.out hO) HO.out)
    clear hO
    go_wp2_with fail
    refine (emit_calls _ b T pre post s err _ 5 HL3.out.1.lex HK3.out.ok).mono ?_
    rintro e W ⟨rfl, hO⟩
    have HO := Aside0.mk (HL3.out.2.trans hO)
    clear hO
    unfold tokV
    have hbz := tok_cells HO.out HL.out.lex.lt
    obtain ⟨hcz, hfz⟩ := cells_in hbz
    have z0 : W.cell? ⟨w.heap.size, 0, none⟩ = some (.int .i64 0) := hcz 0
    have z1 : W.cell? ⟨w.heap.size, 1, none⟩ = some (.string ⟨#[]⟩) := hcz 1
    have z2 : W.cell? ⟨w.heap.size, 2, none⟩ = some (.int .i64 0) := hcz 2
    have z3 : W.cell? ⟨w.heap.size, 3, none⟩ = some (.int .i64 0) := hcz 3
    have z4 : W.cell? ⟨w.heap.size, 4, none⟩ = some (.int .i64 0) := hcz 4
    have z5 : W.cell? ⟨w.heap.size, 5, none⟩ = some (.int .i64 0) := hcz 5
    clear hbz hcz
    have H8 := Aside0.mk (tok_done HO.out HL.out.lex.lt (.int .i64 5) (.string (s.extract y2.st.toNat y2.p.toNat)) (.int .i64 y2.st) (.int .i64 y2.p) (.int .i64 y2.cl) (.int .i64 y2.cs))
    go_wp2
    generalize ((((((W.setCell ⟨w.heap.size, 0, none⟩ (.int .i64 5)).setCell ⟨w.heap.size, 1, none⟩ (.string (s.extract y2.st.toNat y2.p.toNat))).setCell ⟨w.heap.size, 2, none⟩ (.int .i64 y2.st)).setCell ⟨w.heap.size, 3, none⟩ (.int .i64 y2.p)).setCell ⟨w.heap.size, 4, none⟩ (.int .i64 y2.cl)).setCell ⟨w.heap.size, 5, none⟩ (.int .i64 y2.cs)) = W6 at H8 ⊢
    obtain ⟨hc8, _⟩ := cells_in H8.out.2
    have r0 := hc8 0
    have r1 := hc8 1
    have r2 := hc8 2
    have r3 := hc8 3
    have r4 := hc8 4
    have r5 := hc8 5
    simp only [List.getElem?_toArray, List.getElem?_cons_zero, List.getElem?_cons_succ] at r0 r1 r2 r3 r4 r5
    exact bodyPost_ret (v := .tuple #[tokV 5 (s.extract y2.st.toNat y2.p.toNat) y2, .nilIface]) (by simp [results, Tryz.results135, go_sem, tokV, r0, r1, r2, r3, r4, r5]) rfl ⟨rfl, H8.out.1⟩
  · skip
    go_enter Tryz.func135, Tryz.ntmps135
    go_wp2_with fail
    refine (accept2_calls _ b T pre post s err _ _ _ _ HQ1.out HY1.out HL1.out.1 HK1.out).mono ?_
    rintro e W ⟨rfl, hO⟩
    have HO := Aside0.mk (HL1.out.2.trans hO)
    have HL2 := Aside0.mk (And.intro (HL1.out.1.out hO) HO.out)
    clear hO
    go_wp2_with fail
    refine (accept2_calls _ b T pre post s err _ _ _ _ HQ2.out HY2.out HL2.out.1 HK2.out).mono ?_
    rintro e W ⟨rfl, hO⟩
    have HO := Aside0.mk (HL2.out.2.trans hO)
    have HL3 := Aside0.mk (And.intro (HL2.out.1.out hO) HO.out)
    clear hO
    go_wp2_with fail
    refine (emit_calls _ b T pre post s err _ 5 HL3.out.1.lex HK3.out.ok).mono ?_
    rintro e W ⟨rfl, hO⟩
    have HO := Aside0.mk (HL3.out.2.trans hO)
    clear hO
    unfold tokV
    have hbz := tok_cells HO.out HL.out.lex.lt
    obtain ⟨hcz, hfz⟩ := cells_in hbz
    have z0 : W.cell? ⟨w.heap.size, 0, none⟩ = some (.int .i64 0) := hcz 0
    have z1 : W.cell? ⟨w.heap.size, 1, none⟩ = some (.string ⟨#[]⟩) := hcz 1
    have z2 : W.cell? ⟨w.heap.size, 2, none⟩ = some (.int .i64 0) := hcz 2
    have z3 : W.cell? ⟨w.heap.size, 3, none⟩ = some (.int .i64 0) := hcz 3
    have z4 : W.cell? ⟨w.heap.size, 4, none⟩ = some (.int .i64 0) := hcz 4
    have z5 : W.cell? ⟨w.heap.size, 5, none⟩ = some (.int .i64 0) := hcz 5
    clear hbz hcz
    have H8 := Aside0.mk (tok_done HO.out HL.out.lex.lt (.int .i64 5) (.string (s.extract y2.st.toNat y2.p.toNat)) (.int .i64 y2.st) (.int .i64 y2.p) (.int .i64 y2.cl) (.int .i64 y2.cs))
    go_wp2
    generalize ((((((W.setCell ⟨w.heap.size, 0, none⟩ (.int .i64 5)).setCell ⟨w.heap.size, 1, none⟩ (.string (s.extract y2.st.toNat y2.p.toNat))).setCell ⟨w.heap.size, 2, none⟩ (.int .i64 y2.st)).setCell ⟨w.heap.size, 3, none⟩ (.int .i64 y2.p)).setCell ⟨w.heap.size, 4, none⟩ (.int .i64 y2.cl)).setCell ⟨w.heap.size, 5, none⟩ (.int .i64 y2.cs)) = W6 at H8 ⊢
    obtain ⟨hc8, _⟩ := cells_in H8.out.2
    have r0 := hc8 0
    have r1 := hc8 1
    have r2 := hc8 2
    have r3 := hc8 3
    have r4 := hc8 4
    have r5 := hc8 5
    simp only [List.getElem?_toArray, List.getElem?_cons_zero, List.getElem?_cons_succ] at r0 r1 r2 r3 r4 r5
    exact bodyPost_ret (v := .tuple #[tokV 5 (s.extract y2.st.toNat y2.p.toNat) y2, .nilIface]) (by simp [results, Tryz.results135, go_sem, tokV, r0, r1, r2, r3, r4, r5]) rfl ⟨rfl, H8.out.1⟩
end Go.Proofs.YtnnhehlieakedaaGreatDoor.Q
namespace Go.Proofs.YtnnhehlieakedaaGreatDoor.Q
open Go.RowKit Go.Lib Go.Proofs.YtnnhehlieakedaaGreatDoorW.PrintWords Go.Proofs.YtnnhehlieakedaaGreatDoorW.PrintLast Go.Proofs.YtnnhehlieakedaaGreatDoorW.PrintMore
attribute [local go_sem] max2_int min2_int max_two min_two max_three min_three max_four min_four
/-- The state behind a word without quotes. -/
def wordS (s : ByteArray) : Nat → LSt → LSt
  | 0, x => x
  | k + 1, x => if nextR s x.p = -1 then nextS s x else if resR (nextR s x.p) = true then backS (nextS s x) else wordS s k (nextS s x)
theorem LGd.word {s : ByteArray} : ∀ (k : Nat) {x : LSt}, LGd s x → LGd s (wordS s k x)
  | 0, _, h => h
  | k + 1, x, h => by
    rw [wordS]
    split
    · exact h.next
    · split
      · exact h.back
      · exact LGd.word k h.next
/-- The state at the head of the loop over a word: the cursor has read once more. -/
structure WordAt (w wr : World) (b T : Nat) (pre post : List Value) (s : ByteArray) (err : Value) (x0 y : LSt) (r : Int) : Prop where
  ex : ∃ (x : LSt) (k : Nat), y = nextS s x ∧ r = nextR s x.p ∧ LGd s x ∧ wordS s (s.size + 1) x0 = wordS s (k + 1) x ∧ s.size - x.p.toNat ≤ k
  out : LexOut (w.alloc (.cells #[.int .i64 0, .string ⟨#[]⟩, .int .i64 0, .int .i64 0, .int .i64 0, .int .i64 0] 169)) wr b T pre post s err y
  tb : TBb b wr
/-- What is left to read. -/
def wordM (w : World) (b o : Nat) (s : ByteArray) (v : Value) : Nat := match w.cell? ⟨b, o, none⟩, v with
  | some (.int _ p), .int _ r => if r = -1 then 0 else s.size + 1 - p.toNat
  | _, _ => 0
theorem wordM_is {w : World} {b T : Nat} {pre post : List Value} {s : ByteArray} {err : Value} {y : LSt} (h : LexAt w b T pre post s err y) (r : Int) : wordM w b (pre.length + 3) s (.int .i32 r) = if r = -1 then 0 else s.size + 1 - y.p.toNat := by
  unfold wordM
  rw [h.c3]
theorem word_less {s : ByteArray} {x y : LSt} {r : Int} (h : LGd s x) (hy : y = nextS s x) (hr : r = nextR s x.p) (h1 : r ≠ -1) : (if nextR s y.p = -1 then 0 else s.size + 1 - (nextS s y).p.toNat) < (if r = -1 then 0 else s.size + 1 - y.p.toNat) := by
  rw [if_neg h1]
  have hg := hy ▸ h.next
  have a1 := hg.p1
  have a2 := hg.s0
  have a3 := hg.s1
  split
  · omega
  · rename_i h2
    have := (nextS_on hg h2).1
    have := hg.next.p1
    omega
set_option maxRecDepth 100000 in
set_option maxHeartbeats 2000000 in
theorem scanUnquoted_calls (w : World) (b T : Nat) (pre post : List Value) (s : ByteArray) (err : Value) (x : LSt) (y9 : LSt) (hy9 : wordS s (s.size + 1) x = y9) (h : LX w b T pre post s err x) (hk : LGd s x) :
    Calls Tryz.prog 138 #[.pointer (some ⟨b, pre.length, none⟩)] w fun e w' => resE (some 9) s y9 e ∧ LexOut w w' b T pre post s err (resS (some 9) y9) := by
  have HL := Aside0.mk h
  have HK := Aside0.mk hk
  have HL1 := Aside0.mk h.startZ
  have HY := Aside0.mk hy9
  clear h hk hy9
  go_enter Tryz.func138, Tryz.ntmps138
  go_wp2_with fail
  refine (next_calls _ b T pre post s err x HL1.out.1.lex HK.out.ok HL1.out.1.tb.tbl).mono ?_
  rintro e w1 ⟨rfl, hO⟩
  have HW : Aside0 (WordAt w w1 b T pre post s err x (nextS s x) (nextR s x.p)) := ⟨⟨⟨x, s.size, rfl, rfl, HK.out, rfl, by omega⟩, hO, HL1.out.1.tb.grown hO.grown⟩⟩
  clear hO
  go_wp2_with fail
  go_loopw [4] (fun v4 wr => ∃ (y : LSt) (r : Int), v4 = .int .i32 r ∧ Aside0 (WordAt w wr b T pre post s err x y r)) (fun v4 wr => wordM wr b (pre.length + 3) s v4)
  case atStart => exact ⟨_, _, rfl, HW⟩
  case round =>
    obtain ⟨y, r, rfl, HR⟩ := hrel
    obtain ⟨x1, k, hy, hr, hg, hw, hm⟩ := HR.out.ex
    by_cases h1 : r = -1
    · have HX9 : Aside0 (LX wr b T pre post s err y9 ∧ LGd s y9 ∧ LexOut (w.alloc (.cells #[.int .i64 0, .string ⟨#[]⟩, .int .i64 0, .int .i64 0, .int .i64 0, .int .i64 0] 169)) wr b T pre post s err y9) := ⟨by
        have e : y = y9 := by rw [← HY.out, hw, wordS, if_pos (by rw [← hr]; exact h1), hy]
        rw [← e]
        exact ⟨⟨HR.out.out.lex, HR.out.tb⟩, by rw [hy]; exact hg.next, HR.out.out⟩⟩
      subst h1
      clear hy hr hg hw hm HW HL1
      go_wp2_with fail
      refine (emit_calls _ b T pre post s err y9 9 HX9.out.1.lex HX9.out.2.1.ok).mono ?_
      rintro e W ⟨rfl, hO⟩
      have HO := Aside0.mk (HX9.out.2.2.trans hO)
      clear hO
      unfold tokV
      have hbz := tok_cells HO.out HL.out.lex.lt
      obtain ⟨hcz, hfz⟩ := cells_in hbz
      have z0 : W.cell? ⟨w.heap.size, 0, none⟩ = some (.int .i64 0) := hcz 0
      have z1 : W.cell? ⟨w.heap.size, 1, none⟩ = some (.string ⟨#[]⟩) := hcz 1
      have z2 : W.cell? ⟨w.heap.size, 2, none⟩ = some (.int .i64 0) := hcz 2
      have z3 : W.cell? ⟨w.heap.size, 3, none⟩ = some (.int .i64 0) := hcz 3
      have z4 : W.cell? ⟨w.heap.size, 4, none⟩ = some (.int .i64 0) := hcz 4
      have z5 : W.cell? ⟨w.heap.size, 5, none⟩ = some (.int .i64 0) := hcz 5
      clear hbz hcz
      have H8 := Aside0.mk (tok_done HO.out HL.out.lex.lt (.int .i64 9) (.string (s.extract y9.st.toNat y9.p.toNat)) (.int .i64 y9.st) (.int .i64 y9.p) (.int .i64 y9.cl) (.int .i64 y9.cs))
      go_wp2
      generalize ((((((W.setCell ⟨w.heap.size, 0, none⟩ (.int .i64 9)).setCell ⟨w.heap.size, 1, none⟩ (.string (s.extract y9.st.toNat y9.p.toNat))).setCell ⟨w.heap.size, 2, none⟩ (.int .i64 y9.st)).setCell ⟨w.heap.size, 3, none⟩ (.int .i64 y9.p)).setCell ⟨w.heap.size, 4, none⟩ (.int .i64 y9.cl)).setCell ⟨w.heap.size, 5, none⟩ (.int .i64 y9.cs)) = W6 at H8 ⊢
      obtain ⟨hc8, _⟩ := cells_in H8.out.2
      have r0 := hc8 0
      have r1 := hc8 1
      have r2 := hc8 2
      have r3 := hc8 3
      have r4 := hc8 4
      have r5 := hc8 5
      simp only [List.getElem?_toArray, List.getElem?_cons_zero, List.getElem?_cons_succ] at r0 r1 r2 r3 r4 r5
      exact bodyPost_ret (v := .tuple #[tokV 9 (s.extract y9.st.toNat y9.p.toNat) y9, .nilIface]) (by simp [results, Tryz.results138, go_sem, tokV, r0, r1, r2, r3, r4, r5]) rfl ⟨rfl, H8.out.1⟩
    · have e1 : (r == -1) = false := beq_eq_false_iff_ne.2 h1
      have e2 : (r != -1) = true := bne_iff_ne.2 h1
      have hrr := nextR_range s x1.p
      rw [← hr] at hrr
      have hg2 : Aside0 (LGd s y) := ⟨by rw [hy]; exact hg.next⟩
      cases hres : resR r
      · have HRES := Aside0.mk hres
        have HWS : Aside0 (wordS s (s.size + 1) x = wordS s k y) := ⟨by rw [hw, wordS, if_neg (by rw [← hr]; exact h1), ← hr, hres, if_neg (by decide), hy]⟩
        have hk2 : s.size - y.p.toNat + 1 ≤ k := by
          have hon := (nextS_on hg (by rw [← hr]; exact h1)).1
          rw [← hy] at hon
          have := hg2.out.p1
          have := hg.s0; have := hg.s1
          omega
        have HK2 := Aside0.mk hk2
        have HM := Aside0.mk (word_less hg hy hr h1)
        have HM0 := Aside0.mk (wordM_is HR.out.out.lex r)
        have h0 := hrr.1
        have h01 := hrr.2
        clear hy hr hg hw hm HW HL1 hres h1 hk2 hrr
        go_wp2_with fail
        refine (isReserved_calls r _ h0 h01 HR.out.tb.tbl).mono ?_
        rintro e w2 ⟨rfl, hb⟩
        rw [HRES.out]
        have HO2 := Aside0.mk (HR.out.out.below hb)
        have HT2 := Aside0.mk (HR.out.tb.grown (grownBy_below (World.grownBy.refl wr (some b)) hb))
        clear hb
        go_wp2_with fail
        refine (next_calls _ b T pre post s err y HO2.out.lex hg2.out.ok HT2.out.tbl).mono ?_
        rintro e w3 ⟨rfl, hO⟩
        have HW3 : Aside0 (WordAt w w3 b T pre post s err x (nextS s y) (nextR s y.p)) := ⟨⟨⟨y, k - 1, rfl, rfl, hg2.out, by rw [HWS.out]; congr 1; have := HK2.out; omega, by have := HK2.out; omega⟩, HO2.out.trans hO, HT2.out.grown hO.grown⟩⟩
        clear hO
        go_wp2_with fail
        go_roundw
        case rel => exact ⟨_, _, rfl, HW3⟩
        case measure =>
          rw [wordM_is HW3.out.out.lex, HM0.out]
          exact HM.out
      · have HRES := Aside0.mk hres
        have HEQ : Aside0 (backS y = y9) := ⟨by rw [← HY.out, hw, wordS, if_neg (by rw [← hr]; exact h1), ← hr, hres, if_pos rfl, hy]⟩
        have HG9 : Aside0 (LGd s y9) := ⟨by rw [← HEQ.out, hy]; exact hg.back⟩
        have h0 := hrr.1
        have h01 := hrr.2
        clear hy hr hg hw hm HW HL1 hres h1 hrr
        go_wp2_with fail
        refine (isReserved_calls r _ h0 h01 HR.out.tb.tbl).mono ?_
        rintro e w2 ⟨rfl, hb⟩
        rw [HRES.out]
        have HO2 := Aside0.mk (HR.out.out.below hb)
        have HT2 := Aside0.mk (HR.out.tb.grown (grownBy_below (World.grownBy.refl wr (some b)) hb))
        clear hb
        go_wp2_with fail
        refine (rewind_calls _ b T pre post s err y HO2.out.lex hg2.out.ok).mono ?_
        rintro e w3 ⟨rfl, hO⟩
        have HX9 : Aside0 (LX w3 b T pre post s err y9 ∧ LGd s y9 ∧ LexOut (w.alloc (.cells #[.int .i64 0, .string ⟨#[]⟩, .int .i64 0, .int .i64 0, .int .i64 0, .int .i64 0] 169)) w3 b T pre post s err y9) := ⟨by
          rw [HEQ.out] at hO
          exact ⟨⟨hO.lex, HT2.out.grown hO.grown⟩, HG9.out, HO2.out.trans hO⟩⟩
        clear hO
        go_wp2_with fail
        refine (emit_calls _ b T pre post s err y9 9 HX9.out.1.lex HX9.out.2.1.ok).mono ?_
        rintro e W ⟨rfl, hO⟩
        have HO := Aside0.mk (HX9.out.2.2.trans hO)
        clear hO
        unfold tokV
        have hbz := tok_cells HO.out HL.out.lex.lt
        obtain ⟨hcz, hfz⟩ := cells_in hbz
        have z0 : W.cell? ⟨w.heap.size, 0, none⟩ = some (.int .i64 0) := hcz 0
        have z1 : W.cell? ⟨w.heap.size, 1, none⟩ = some (.string ⟨#[]⟩) := hcz 1
        have z2 : W.cell? ⟨w.heap.size, 2, none⟩ = some (.int .i64 0) := hcz 2
        have z3 : W.cell? ⟨w.heap.size, 3, none⟩ = some (.int .i64 0) := hcz 3
        have z4 : W.cell? ⟨w.heap.size, 4, none⟩ = some (.int .i64 0) := hcz 4
        have z5 : W.cell? ⟨w.heap.size, 5, none⟩ = some (.int .i64 0) := hcz 5
        clear hbz hcz
        have H8 := Aside0.mk (tok_done HO.out HL.out.lex.lt (.int .i64 9) (.string (s.extract y9.st.toNat y9.p.toNat)) (.int .i64 y9.st) (.int .i64 y9.p) (.int .i64 y9.cl) (.int .i64 y9.cs))
        go_wp2
        generalize ((((((W.setCell ⟨w.heap.size, 0, none⟩ (.int .i64 9)).setCell ⟨w.heap.size, 1, none⟩ (.string (s.extract y9.st.toNat y9.p.toNat))).setCell ⟨w.heap.size, 2, none⟩ (.int .i64 y9.st)).setCell ⟨w.heap.size, 3, none⟩ (.int .i64 y9.p)).setCell ⟨w.heap.size, 4, none⟩ (.int .i64 y9.cl)).setCell ⟨w.heap.size, 5, none⟩ (.int .i64 y9.cs)) = W6 at H8 ⊢
        obtain ⟨hc8, _⟩ := cells_in H8.out.2
        have r0 := hc8 0
        have r1 := hc8 1
        have r2 := hc8 2
        have r3 := hc8 3
        have r4 := hc8 4
        have r5 := hc8 5
        simp only [List.getElem?_toArray, List.getElem?_cons_zero, List.getElem?_cons_succ] at r0 r1 r2 r3 r4 r5
        exact bodyPost_ret (v := .tuple #[tokV 9 (s.extract y9.st.toNat y9.p.toNat) y9, .nilIface]) (by simp [results, Tryz.results138, go_sem, tokV, r0, r1, r2, r3, r4, r5]) rfl ⟨rfl, H8.out.1⟩
end Go.Proofs.YtnnhehlieakedaaGreatDoor.Q
namespace Go.Proofs.YtnnhehlieakedaaGreatDoor.Q
open Go.RowKit Go.Lib Go.Proofs.YtnnhehlieakedaaGreatDoorW.PrintWords Go.Proofs.YtnnhehlieakedaaGreatDoorW.PrintLast Go.Proofs.YtnnhehlieakedaaGreatDoorW.PrintMore
attribute [local go_sem] max2_int min2_int max_two min_two max_three min_three max_four min_four
/-- The state behind what stands between quotes: 'esc': a backslash is open. -/
def quotS (s : ByteArray) : Nat → Bool → LSt → LSt
  | 0, _, x => x
  | k + 1, esc, x => if nextR s x.p = -1 then nextS s x else if esc then quotS s k false (nextS s x) else if nextR s x.p = 92 then quotS s k true (nextS s x) else if nextR s x.p = 34 then backS (nextS s x) else quotS s k false (nextS s x)
theorem LGd.quot {s : ByteArray} : ∀ (k : Nat) (esc : Bool) {x : LSt}, LGd s x → LGd s (quotS s k esc x)
  | 0, _, _, h => h
  | k + 1, esc, x, h => by
    rw [quotS]
    split
    · exact h.next
    · split
      · exact LGd.quot k _ h.next
      · split
        · exact LGd.quot k _ h.next
        · split
          · exact h.back
          · exact LGd.quot k _ h.next
/-- The token in quotes: its kind, or none, and the state behind it. -/
def quoF (s : ByteArray) (x : LSt) : Option Int × LSt :=
  if acB s x ⟨#[34]⟩ then
    (if acB s (quotS s (s.size + 1) false (acS s x ⟨#[34]⟩)) ⟨#[34]⟩ then some 8 else none, acS s (quotS s (s.size + 1) false (acS s x ⟨#[34]⟩)) ⟨#[34]⟩)
  else (none, acS s x ⟨#[34]⟩)
structure QuotAt (w wr : World) (b T : Nat) (pre post : List Value) (s : ByteArray) (err : Value) (x0 y : LSt) (esc : Bool) (r : Int) : Prop where
  ex : ∃ (x : LSt) (k : Nat), y = nextS s x ∧ r = nextR s x.p ∧ LGd s x ∧ quotS s (s.size + 1) false x0 = quotS s (k + 1) esc x ∧ s.size - x.p.toNat ≤ k
  out : LexOut (w.alloc (.cells #[.int .i64 0, .string ⟨#[]⟩, .int .i64 0, .int .i64 0, .int .i64 0, .int .i64 0] 169)) wr b T pre post s err y
  tb : TBb b wr
set_option maxRecDepth 100000 in
set_option maxHeartbeats 4000000 in
theorem scanQuoted1_calls (w : World) (b T : Nat) (pre post : List Value) (s : ByteArray) (err : Value) (x x1 yq y9 : LSt) (o : Option Int) (hb1 : acB s x ⟨#[34]⟩ = true) (hx1 : acS s x ⟨#[34]⟩ = x1) (hyq : quotS s (s.size + 1) false x1 = yq) (hy9 : acS s yq ⟨#[34]⟩ = y9) (ho : (if acB s yq ⟨#[34]⟩ then some 8 else none) = o) (h : LX w b T pre post s err x) (hk : LGd s x) :
    Calls Tryz.prog 136 #[.pointer (some ⟨b, pre.length, none⟩)] w fun e w' => resE o s y9 e ∧ LexOut w w' b T pre post s err (resS o y9) := by
  have HL := Aside0.mk h
  have HK := Aside0.mk hk
  have HL1 := Aside0.mk h.startZ
  have HB1 := Aside0.mk hb1
  have HX1 := Aside0.mk hx1
  have HYQ := Aside0.mk hyq
  have HY9 := Aside0.mk hy9
  have HGX : Aside0 (LGd s x1) := ⟨by rw [← hx1]; exact hk.ac _⟩
  have HGQ : Aside0 (LGd s yq) := ⟨by rw [← hyq]; exact LGd.quot _ _ HGX.out⟩
  have HG9 : Aside0 (LGd s y9) := ⟨by rw [← hy9]; exact HGQ.out.ac _⟩
  have HOO := Aside0.mk ho
  have hu0 := Tryz.underlying169
  have hu1 := Tryz.underlying231
  have hu2 := Tryz.underlying167
  clear h hk hb1 hx1 hyq hy9 ho
  go_enter Tryz.func136, Tryz.ntmps136
  go_wp2_with fail
  refine (expect_calls _ b T pre post s err x ⟨#[34]⟩ HL1.out.1 HK.out).mono ?_
  rintro e w0 ⟨⟨v, rfl, hv⟩, hO⟩
  rw [HB1.out, if_pos rfl] at hv
  subst hv
  rw [HX1.out] at hO
  have HO0 := Aside0.mk (HL1.out.2.trans hO)
  have HLX0 := Aside0.mk (HL1.out.1.out hO)
  clear hO HL1
  go_wp2_with fail
  refine (next_calls _ b T pre post s err x1 HLX0.out.lex HGX.out.ok HLX0.out.tb.tbl).mono ?_
  rintro e w1 ⟨rfl, hO⟩
  have HW : Aside0 (QuotAt w w1 b T pre post s err x1 (nextS s x1) false (nextR s x1.p)) := ⟨⟨⟨x1, s.size, rfl, rfl, HGX.out, rfl, by omega⟩, HO0.out.trans hO, HLX0.out.tb.grown hO.grown⟩⟩
  clear hO HO0 HLX0
  go_wp2_with fail
  go_loopw [5, 6] (fun v5 v6 wr => ∃ (y : LSt) (esc : Bool) (r : Int), v5 = .bool esc ∧ v6 = .int .i32 r ∧ Aside0 (QuotAt w wr b T pre post s err x1 y esc r)) (fun _ v6 wr => wordM wr b (pre.length + 3) s v6)
  case atStart => exact ⟨_, _, _, rfl, rfl, HW⟩
  case round =>
    obtain ⟨y, esc, r, rfl, rfl, HR⟩ := hrel
    obtain ⟨x2, k, hy, hr, hg, hw, hm⟩ := HR.out.ex
    clear HW
    by_cases h1 : r = -1
    · have HQ : Aside0 (LX wr b T pre post s err yq ∧ LGd s yq ∧ LexOut (w.alloc (.cells #[.int .i64 0, .string ⟨#[]⟩, .int .i64 0, .int .i64 0, .int .i64 0, .int .i64 0] 169)) wr b T pre post s err yq) := ⟨by
        have e : y = yq := by rw [← HYQ.out, hw, quotS, if_pos (by rw [← hr]; exact h1), hy]
        rw [← e]
        exact ⟨⟨HR.out.out.lex, HR.out.tb⟩, by rw [hy]; exact hg.next, HR.out.out⟩⟩
      subst h1
      clear hy hr hg hw hm
      go_wp2_with fail
      refine (expect_calls _ b T pre post s err yq ⟨#[34]⟩ HQ.out.1 HQ.out.2.1).mono ?_
      rintro e W ⟨⟨v, rfl, hv⟩, hO⟩
      rw [HY9.out] at hO
      have HO := Aside0.mk (HQ.out.2.2.trans hO)
      have HXT : Aside0 (TBb b W) := ⟨HQ.out.1.tb.grown hO.grown⟩
      cases hq9 : acB s yq ⟨#[34]⟩
      · rw [hq9, if_neg (by decide)] at hv
        obtain ⟨ti, pv, rfl, _⟩ := hv
        have HON : Aside0 (o = none) := ⟨by rw [← HOO.out, hq9]; rfl⟩
        clear hO hq9
        go_wp2_with fail
        have hlt := HL.out.lex.lt
        have HT0 : Aside0 (TZ w W.drew b T pre post s err y9) := ⟨(TZ.of HO.out HL.out.lex.lt).below (below_drew (Below.refl _ _))⟩
        clear HO
        go_region_held3 (fun W => W.cell? ⟨b, pre.length, none⟩ = some (.string s) ∧ W.cell? ⟨w.heap.size, 0, none⟩ = some (.int .i64 0) ∧ W.cell? ⟨w.heap.size, 1, none⟩ = some (.string ⟨#[]⟩) ∧ W.cell? ⟨w.heap.size, 2, none⟩ = some (.int .i64 0) ∧ W.cell? ⟨w.heap.size, 3, none⟩ = some (.int .i64 0) ∧ W.cell? ⟨w.heap.size, 4, none⟩ = some (.int .i64 0) ∧ W.cell? ⟨w.heap.size, 5, none⟩ = some (.int .i64 0) ∧ (∀ j, W.frozen? ⟨w.heap.size, j, none⟩ = false) ∧ Aside0 (TZ w W b T pre post s err y9)) (first | (with_reducible exact HT0.out.facts) | (with_reducible exact HT1.out.facts) | (with_reducible exact (HT1.out.zero6 hlt).facts)) (first | (go_at_call 140; (with_reducible refine (pos5_calls w W.drew b T pre post s err y9 HT0.out).mono ?_); rintro e w4 ⟨rfl, HT1⟩; unfold posV))
        go_wp2
        have HT2 := HT1.out.zero6 hlt
        obtain ⟨_, r0, r1, r2, r3, r4, r5, _, _⟩ := HT2.facts
        exact bodyPost_ret (v := .tuple #[tok0, .iface 231 (.agg #[.int .i64 y9.st, .int .i64 y9.p, .int .i64 y9.cl, .int .i64 y9.cs, .string s, .int .i32 34])]) (by simp [results, Tryz.results136, go_sem, tok0, r0, r1, r2, r3, r4, r5]) rfl ⟨by rw [HON.out]; exact ⟨_, rfl, ⟨_, _, rfl, Or.inr (Or.inl rfl)⟩⟩, by rw [HON.out]; exact ⟨HT2.lex, HT2.gr⟩⟩
      · rw [hq9, if_pos rfl] at hv
        subst hv
        have HON : Aside0 (o = some 8) := ⟨by rw [← HOO.out, hq9]; rfl⟩
        have HX9 : Aside0 (LX W b T pre post s err y9 ∧ LGd s y9 ∧ LexOut (w.alloc (.cells #[.int .i64 0, .string ⟨#[]⟩, .int .i64 0, .int .i64 0, .int .i64 0, .int .i64 0] 169)) W b T pre post s err y9) := ⟨⟨hO.lex, HXT.out⟩, HG9.out, HO.out⟩
        clear hO hq9 HO
        go_wp2_with fail
        refine (emit_calls _ b T pre post s err y9 8 HX9.out.1.lex HX9.out.2.1.ok).mono ?_
        rintro e W ⟨rfl, hO⟩
        have HO := Aside0.mk (HX9.out.2.2.trans hO)
        clear hO
        unfold tokV
        have hbz := tok_cells HO.out HL.out.lex.lt
        obtain ⟨hcz, hfz⟩ := cells_in hbz
        have z0 : W.cell? ⟨w.heap.size, 0, none⟩ = some (.int .i64 0) := hcz 0
        have z1 : W.cell? ⟨w.heap.size, 1, none⟩ = some (.string ⟨#[]⟩) := hcz 1
        have z2 : W.cell? ⟨w.heap.size, 2, none⟩ = some (.int .i64 0) := hcz 2
        have z3 : W.cell? ⟨w.heap.size, 3, none⟩ = some (.int .i64 0) := hcz 3
        have z4 : W.cell? ⟨w.heap.size, 4, none⟩ = some (.int .i64 0) := hcz 4
        have z5 : W.cell? ⟨w.heap.size, 5, none⟩ = some (.int .i64 0) := hcz 5
        clear hbz hcz
        have H8 := Aside0.mk (tok_done HO.out HL.out.lex.lt (.int .i64 8) (.string (s.extract y9.st.toNat y9.p.toNat)) (.int .i64 y9.st) (.int .i64 y9.p) (.int .i64 y9.cl) (.int .i64 y9.cs))
        go_wp2
        generalize ((((((W.setCell ⟨w.heap.size, 0, none⟩ (.int .i64 8)).setCell ⟨w.heap.size, 1, none⟩ (.string (s.extract y9.st.toNat y9.p.toNat))).setCell ⟨w.heap.size, 2, none⟩ (.int .i64 y9.st)).setCell ⟨w.heap.size, 3, none⟩ (.int .i64 y9.p)).setCell ⟨w.heap.size, 4, none⟩ (.int .i64 y9.cl)).setCell ⟨w.heap.size, 5, none⟩ (.int .i64 y9.cs)) = W6 at H8 ⊢
        obtain ⟨hc8, _⟩ := cells_in H8.out.2
        have r0 := hc8 0
        have r1 := hc8 1
        have r2 := hc8 2
        have r3 := hc8 3
        have r4 := hc8 4
        have r5 := hc8 5
        simp only [List.getElem?_toArray, List.getElem?_cons_zero, List.getElem?_cons_succ] at r0 r1 r2 r3 r4 r5
        exact bodyPost_ret (v := .tuple #[tokV 8 (s.extract y9.st.toNat y9.p.toNat) y9, .nilIface]) (by simp [results, Tryz.results136, go_sem, tokV, r0, r1, r2, r3, r4, r5]) rfl ⟨by rw [HON.out]; rfl, by rw [HON.out]; exact H8.out.1⟩
    · have e1 : (r == -1) = false := beq_eq_false_iff_ne.2 h1
      have e2 : (r != -1) = true := bne_iff_ne.2 h1
      have hrr := nextR_range s x2.p
      rw [← hr] at hrr
      have hg2 : Aside0 (LGd s y) := ⟨by rw [hy]; exact hg.next⟩
      have hk2 : s.size - y.p.toNat + 1 ≤ k := by
        have hon := (nextS_on hg (by rw [← hr]; exact h1)).1
        rw [← hy] at hon
        have := hg2.out.p1
        have := hg.s0; have := hg.s1
        omega
      have HK2 := Aside0.mk hk2
      have HM := Aside0.mk (word_less hg hy hr h1)
      have HM0 := Aside0.mk (wordM_is HR.out.out.lex r)
      cases esc
      · by_cases h92 : r = 92
        ·
          skip
          subst h92
          have HWS : Aside0 (quotS s (s.size + 1) false x1 = quotS s k true y) := ⟨by rw [hw, quotS, if_neg (by rw [← hr]; exact h1)]; rw [if_neg (by decide), if_pos hr.symm, hy]⟩
          clear hy hr hg hw hm h1 hk2 hrr
          go_wp2_with fail
          refine (next_calls _ b T pre post s err y HR.out.out.lex hg2.out.ok HR.out.tb.tbl).mono ?_
          rintro e w3 ⟨rfl, hO⟩
          have HW3 : Aside0 (QuotAt w w3 b T pre post s err x1 (nextS s y) true (nextR s y.p)) := ⟨⟨⟨y, k - 1, rfl, rfl, hg2.out, by rw [HWS.out]; congr 1; have := HK2.out; omega, by have := HK2.out; omega⟩, HR.out.out.trans hO, HR.out.tb.grown hO.grown⟩⟩
          clear hO
          go_wp2_with fail
          go_roundw
          case rel => exact ⟨_, _, _, rfl, rfl, HW3⟩
          case measure =>
            rw [wordM_is HW3.out.out.lex, HM0.out]
            exact HM.out
        · by_cases h34 : r = 34
          · have HQ : Aside0 (∀ W : World, LexOut wr W b T pre post s err (backS y) → LX W b T pre post s err yq ∧ LGd s yq ∧ LexOut (w.alloc (.cells #[.int .i64 0, .string ⟨#[]⟩, .int .i64 0, .int .i64 0, .int .i64 0, .int .i64 0] 169)) W b T pre post s err yq) := ⟨fun W hO => by
              have e : backS y = yq := by rw [← HYQ.out, hw, quotS, if_neg (by rw [← hr]; exact h1), if_neg (by decide), if_neg (by rw [← hr]; exact h92), if_pos (by rw [← hr]; exact h34), hy]
              rw [e] at hO
              exact ⟨⟨hO.lex, HR.out.tb.grown hO.grown⟩, HGQ.out, HR.out.out.trans hO⟩⟩
            subst h34
            clear hy hr hg hw hm h1 h92
            go_wp2_with fail
            refine (rewind_calls _ b T pre post s err y HR.out.out.lex hg2.out.ok).mono ?_
            rintro e w3 ⟨rfl, hO⟩
            replace HQ := Aside0.mk (HQ.out w3 hO)
            clear hO
            go_wp2_with fail
            refine (expect_calls _ b T pre post s err yq ⟨#[34]⟩ HQ.out.1 HQ.out.2.1).mono ?_
            rintro e W ⟨⟨v, rfl, hv⟩, hO⟩
            rw [HY9.out] at hO
            have HO := Aside0.mk (HQ.out.2.2.trans hO)
            have HXT : Aside0 (TBb b W) := ⟨HQ.out.1.tb.grown hO.grown⟩
            cases hq9 : acB s yq ⟨#[34]⟩
            · rw [hq9, if_neg (by decide)] at hv
              obtain ⟨ti, pv, rfl, _⟩ := hv
              have HON : Aside0 (o = none) := ⟨by rw [← HOO.out, hq9]; rfl⟩
              clear hO hq9
              go_wp2_with fail
              have hlt := HL.out.lex.lt
              have HT0 : Aside0 (TZ w W.drew b T pre post s err y9) := ⟨(TZ.of HO.out HL.out.lex.lt).below (below_drew (Below.refl _ _))⟩
              clear HO
              go_region_held3 (fun W => W.cell? ⟨b, pre.length, none⟩ = some (.string s) ∧ W.cell? ⟨w.heap.size, 0, none⟩ = some (.int .i64 0) ∧ W.cell? ⟨w.heap.size, 1, none⟩ = some (.string ⟨#[]⟩) ∧ W.cell? ⟨w.heap.size, 2, none⟩ = some (.int .i64 0) ∧ W.cell? ⟨w.heap.size, 3, none⟩ = some (.int .i64 0) ∧ W.cell? ⟨w.heap.size, 4, none⟩ = some (.int .i64 0) ∧ W.cell? ⟨w.heap.size, 5, none⟩ = some (.int .i64 0) ∧ (∀ j, W.frozen? ⟨w.heap.size, j, none⟩ = false) ∧ Aside0 (TZ w W b T pre post s err y9)) (first | (with_reducible exact HT0.out.facts) | (with_reducible exact HT1.out.facts) | (with_reducible exact (HT1.out.zero6 hlt).facts)) (first | (go_at_call 140; (with_reducible refine (pos5_calls w W.drew b T pre post s err y9 HT0.out).mono ?_); rintro e w4 ⟨rfl, HT1⟩; unfold posV))
              go_wp2
              have HT2 := HT1.out.zero6 hlt
              obtain ⟨_, r0, r1, r2, r3, r4, r5, _, _⟩ := HT2.facts
              exact bodyPost_ret (v := .tuple #[tok0, .iface 231 (.agg #[.int .i64 y9.st, .int .i64 y9.p, .int .i64 y9.cl, .int .i64 y9.cs, .string s, .int .i32 34])]) (by simp [results, Tryz.results136, go_sem, tok0, r0, r1, r2, r3, r4, r5]) rfl ⟨by rw [HON.out]; exact ⟨_, rfl, ⟨_, _, rfl, Or.inr (Or.inl rfl)⟩⟩, by rw [HON.out]; exact ⟨HT2.lex, HT2.gr⟩⟩
            · rw [hq9, if_pos rfl] at hv
              subst hv
              have HON : Aside0 (o = some 8) := ⟨by rw [← HOO.out, hq9]; rfl⟩
              have HX9 : Aside0 (LX W b T pre post s err y9 ∧ LGd s y9 ∧ LexOut (w.alloc (.cells #[.int .i64 0, .string ⟨#[]⟩, .int .i64 0, .int .i64 0, .int .i64 0, .int .i64 0] 169)) W b T pre post s err y9) := ⟨⟨hO.lex, HXT.out⟩, HG9.out, HO.out⟩
              clear hO hq9 HO
              go_wp2_with fail
              refine (emit_calls _ b T pre post s err y9 8 HX9.out.1.lex HX9.out.2.1.ok).mono ?_
              rintro e W ⟨rfl, hO⟩
              have HO := Aside0.mk (HX9.out.2.2.trans hO)
              clear hO
              unfold tokV
              have hbz := tok_cells HO.out HL.out.lex.lt
              obtain ⟨hcz, hfz⟩ := cells_in hbz
              have z0 : W.cell? ⟨w.heap.size, 0, none⟩ = some (.int .i64 0) := hcz 0
              have z1 : W.cell? ⟨w.heap.size, 1, none⟩ = some (.string ⟨#[]⟩) := hcz 1
              have z2 : W.cell? ⟨w.heap.size, 2, none⟩ = some (.int .i64 0) := hcz 2
              have z3 : W.cell? ⟨w.heap.size, 3, none⟩ = some (.int .i64 0) := hcz 3
              have z4 : W.cell? ⟨w.heap.size, 4, none⟩ = some (.int .i64 0) := hcz 4
              have z5 : W.cell? ⟨w.heap.size, 5, none⟩ = some (.int .i64 0) := hcz 5
              clear hbz hcz
              have H8 := Aside0.mk (tok_done HO.out HL.out.lex.lt (.int .i64 8) (.string (s.extract y9.st.toNat y9.p.toNat)) (.int .i64 y9.st) (.int .i64 y9.p) (.int .i64 y9.cl) (.int .i64 y9.cs))
              go_wp2
              generalize ((((((W.setCell ⟨w.heap.size, 0, none⟩ (.int .i64 8)).setCell ⟨w.heap.size, 1, none⟩ (.string (s.extract y9.st.toNat y9.p.toNat))).setCell ⟨w.heap.size, 2, none⟩ (.int .i64 y9.st)).setCell ⟨w.heap.size, 3, none⟩ (.int .i64 y9.p)).setCell ⟨w.heap.size, 4, none⟩ (.int .i64 y9.cl)).setCell ⟨w.heap.size, 5, none⟩ (.int .i64 y9.cs)) = W6 at H8 ⊢
              obtain ⟨hc8, _⟩ := cells_in H8.out.2
              have r0 := hc8 0
              have r1 := hc8 1
              have r2 := hc8 2
              have r3 := hc8 3
              have r4 := hc8 4
              have r5 := hc8 5
              simp only [List.getElem?_toArray, List.getElem?_cons_zero, List.getElem?_cons_succ] at r0 r1 r2 r3 r4 r5
              exact bodyPost_ret (v := .tuple #[tokV 8 (s.extract y9.st.toNat y9.p.toNat) y9, .nilIface]) (by simp [results, Tryz.results136, go_sem, tokV, r0, r1, r2, r3, r4, r5]) rfl ⟨by rw [HON.out]; rfl, by rw [HON.out]; exact H8.out.1⟩
          ·
            skip
            have e3 : (r == 92) = false := beq_eq_false_iff_ne.2 h92
            have e4 : (r == 34) = false := beq_eq_false_iff_ne.2 h34
            have HWS : Aside0 (quotS s (s.size + 1) false x1 = quotS s k false y) := ⟨by rw [hw, quotS, if_neg (by rw [← hr]; exact h1)]; rw [if_neg (by decide), if_neg (by rw [← hr]; exact h92), if_neg (by rw [← hr]; exact h34), hy]⟩
            clear hy hr hg hw hm h1 hk2 hrr h92 h34
            go_wp2_with fail
            refine (next_calls _ b T pre post s err y HR.out.out.lex hg2.out.ok HR.out.tb.tbl).mono ?_
            rintro e w3 ⟨rfl, hO⟩
            have HW3 : Aside0 (QuotAt w w3 b T pre post s err x1 (nextS s y) false (nextR s y.p)) := ⟨⟨⟨y, k - 1, rfl, rfl, hg2.out, by rw [HWS.out]; congr 1; have := HK2.out; omega, by have := HK2.out; omega⟩, HR.out.out.trans hO, HR.out.tb.grown hO.grown⟩⟩
            clear hO
            go_wp2_with fail
            go_roundw
            case rel => exact ⟨_, _, _, rfl, rfl, HW3⟩
            case measure =>
              rw [wordM_is HW3.out.out.lex, HM0.out]
              exact HM.out
      ·
        skip
        have HWS : Aside0 (quotS s (s.size + 1) false x1 = quotS s k false y) := ⟨by rw [hw, quotS, if_neg (by rw [← hr]; exact h1)]; rw [if_pos rfl, hy]⟩
        clear hy hr hg hw hm h1 hk2 hrr
        go_wp2_with fail
        refine (next_calls _ b T pre post s err y HR.out.out.lex hg2.out.ok HR.out.tb.tbl).mono ?_
        rintro e w3 ⟨rfl, hO⟩
        have HW3 : Aside0 (QuotAt w w3 b T pre post s err x1 (nextS s y) false (nextR s y.p)) := ⟨⟨⟨y, k - 1, rfl, rfl, hg2.out, by rw [HWS.out]; congr 1; have := HK2.out; omega, by have := HK2.out; omega⟩, HR.out.out.trans hO, HR.out.tb.grown hO.grown⟩⟩
        clear hO
        go_wp2_with fail
        go_roundw
        case rel => exact ⟨_, _, _, rfl, rfl, HW3⟩
        case measure =>
          rw [wordM_is HW3.out.out.lex, HM0.out]
          exact HM.out
end Go.Proofs.YtnnhehlieakedaaGreatDoor.Q
namespace Go.Proofs.YtnnhehlieakedaaGreatDoor.Q
open Go.RowKit Go.Lib Go.Proofs.YtnnhehlieakedaaGreatDoorW.PrintWords Go.Proofs.YtnnhehlieakedaaGreatDoorW.PrintLast Go.Proofs.YtnnhehlieakedaaGreatDoorW.PrintMore
attribute [local go_sem] max2_int min2_int max_two min_two max_three min_three max_four min_four
/-- What a scan comes to. -/
inductive Sc | eof | bad | tok (k : Int)
def Sc.of : Option Int → Sc
  | none => .bad
  | some k => .tok k
/-- One character of a scan: what it decides, or on. -/
def scan1 (s : ByteArray) (x : LSt) : Option (Sc × LSt) :=
  let r := nextR s x.p
  let y := nextS s x
  if r = -1 then some (.eof, y)
  else if r = 123 then some (.tok 1, y)
  else if r = 125 then some (.tok 2, y)
  else if r = 44 then some (.tok 3, y)
  else if r = 61 ∨ r = 33 then some (Sc.of (opF s (backS y)).1, (opF s (backS y)).2)
  else if r = 34 then some (Sc.of (quoF s (backS y)).1, (quoF s (backS y)).2)
  else if resR r = false then some (.tok 9, wordS s (s.size + 1) (backS y))
  else if Lib.isSpaceZ r = true then none
  else some (.bad, y)
def scanF (s : ByteArray) : Nat → LSt → Sc × LSt
  | 0, x => (.bad, x)
  | k + 1, x => match scan1 s x with
    | some z => z
    | none => scanF s k (skipS (nextS s x))
/-- What scan leaves and hands back. -/
def ScP (w w' : World) (b T : Nat) (pre post : List Value) (s : ByteArray) (c : Sc) (y : LSt) (e : Ending) : Prop := match c with
  | .eof => e = .returned (.tuple #[tok0, .nilIface]) ∧ LexOut w w' b T pre post s .nilIface y
  | .bad => ∃ ev, ErrV ev ∧ e = .returned (.tuple #[tok0, ev]) ∧ LexOut w w' b T pre post s ev y
  | .tok k => e = .returned (.tuple #[tokV k (s.extract y.st.toNat y.p.toNat) y, .nilIface]) ∧ LexOut w w' b T pre post s .nilIface (emitS y)
/-- Two blocks of scan's own: the result's, of zeros, and the token's. -/
structure ScT (w W : World) (b T : Nat) (pre post : List Value) (s : ByteArray) (err : Value) (y : LSt) (tv : Array Value) : Prop where
  lx : LX W b T pre post s err y
  gr : w.grownBy W (some b)
  blk : W.heap[w.heap.size]? = some (.cells #[.int .i64 0, .string ⟨#[]⟩, .int .i64 0, .int .i64 0, .int .i64 0, .int .i64 0] 169 (0, 0))
  tok : W.heap[w.heap.size + 1]? = some (.cells tv 169 (0, 0))
  hb : b < w.heap.size
section
variable {w W w' : World} {b T : Nat} {pre post : List Value} {s : ByteArray} {err err' : Value} {x y : LSt} {tv : Array Value}
theorem ScT.out (h : ScT w W b T pre post s err x tv) (hO : LexOut W w' b T pre post s err' y) : ScT w w' b T pre post s err' y tv :=
  ⟨h.lx.out hO, h.gr.trans hO.grown, (hO.grown.block _ (Array.getElem?_eq_some_iff.1 h.blk).1 (by intro e; injection e with e; have := h.hb; omega)).trans h.blk, (hO.grown.block _ (Array.getElem?_eq_some_iff.1 h.tok).1 (by intro e; injection e with e; have := h.hb; omega)).trans h.tok, h.hb⟩
theorem ScT.below (h : ScT w W b T pre post s err x tv) (hb : Below W.heap.size W w') : ScT w w' b T pre post s err x tv :=
  h.out ⟨h.lx.lex.below hb, grownBy_below (World.grownBy.refl W (some b)) hb⟩
theorem ScT.facts (h : ScT w W b T pre post s err x tv) : (∀ j, W.cell? ⟨w.heap.size + 1, j, none⟩ = tv[j]?) ∧ (∀ j, W.frozen? ⟨w.heap.size + 1, j, none⟩ = false) ∧ (∀ j, W.cell? ⟨w.heap.size, j, none⟩ = (#[.int .i64 0, .string ⟨#[]⟩, .int .i64 0, .int .i64 0, .int .i64 0, .int .i64 0] : Array Value)[j]?) ∧ (∀ j, W.frozen? ⟨w.heap.size, j, none⟩ = false) := by
  obtain ⟨a1, a2⟩ := cells_in h.tok
  obtain ⟨b1, b2⟩ := cells_in h.blk
  exact ⟨a1, a2, b1, b2⟩
theorem ScT.fin (h : ScT w W b T pre post s err y tv) (v0 v1 v2 v3 v4 v5 : Value) :
    LexOut w ((((((W.setCell ⟨w.heap.size, 0, none⟩ v0).setCell ⟨w.heap.size, 1, none⟩ v1).setCell ⟨w.heap.size, 2, none⟩ v2).setCell ⟨w.heap.size, 3, none⟩ v3).setCell ⟨w.heap.size, 4, none⟩ v4).setCell ⟨w.heap.size, 5, none⟩ v5) b T pre post s err y ∧
    ((((((W.setCell ⟨w.heap.size, 0, none⟩ v0).setCell ⟨w.heap.size, 1, none⟩ v1).setCell ⟨w.heap.size, 2, none⟩ v2).setCell ⟨w.heap.size, 3, none⟩ v3).setCell ⟨w.heap.size, 4, none⟩ v4).setCell ⟨w.heap.size, 5, none⟩ v5).heap[w.heap.size]? = some (.cells #[v0, v1, v2, v3, v4, v5] 169 (0, 0)) :=
  TZ.set6 ⟨h.lx.lex, h.gr, h.blk⟩ h.hb v0 v1 v2 v3 v4 v5
theorem ScT.put1 (h : ScT w W b T pre post s err y tv) (o : Nat) (v : Value) (tv' : Array Value) (ht : (W.setCell ⟨w.heap.size + 1, o, none⟩ v).heap[w.heap.size + 1]? = some (.cells tv' 169 (0, 0))) : ScT w (W.setCell ⟨w.heap.size + 1, o, none⟩ v) b T pre post s err y tv' := by
  have n3 : ¬ b = w.heap.size + 1 := by have := h.hb; omega
  have hG : W.grownBy (W.setCell ⟨w.heap.size + 1, o, none⟩ v) (some (w.heap.size + 1)) := grownBy_setB (World.grownBy.refl W _) o v
  refine ⟨⟨h.lx.lex.other n3 o v, ?_⟩, grown_new h.gr (Nat.le_succ _) o v, (Below.heap_setCell W ⟨w.heap.size + 1, o, none⟩ v _ (by show w.heap.size ≠ w.heap.size + 1; omega)).trans h.blk, ht, h.hb⟩
  obtain ⟨w0, k1, k2, k3⟩ := h.lx.tb
  exact ⟨w0, k1, k2, k3.setCell (by show w0.heap.size ≤ w.heap.size + 1; have := h.hb; omega) _⟩
theorem ScT.put (h : ScT w W b T pre post s err y tv) (hz : tv.size = 6) (v0 v1 v2 v3 v4 v5 : Value) :
    ScT w ((((((W.setCell ⟨w.heap.size + 1, 0, none⟩ v0).setCell ⟨w.heap.size + 1, 1, none⟩ v1).setCell ⟨w.heap.size + 1, 2, none⟩ v2).setCell ⟨w.heap.size + 1, 3, none⟩ v3).setCell ⟨w.heap.size + 1, 4, none⟩ v4).setCell ⟨w.heap.size + 1, 5, none⟩ v5) b T pre post s err y #[v0, v1, v2, v3, v4, v5] := by
  have st : ∀ {W : World} {tv : Array Value}, ScT w W b T pre post s err y tv → ∀ (o : Nat) (v : Value), ScT w (W.setCell ⟨w.heap.size + 1, o, none⟩ v) b T pre post s err y (tv.setIfInBounds o v) := fun {W} {tv} h o v => h.put1 o v _ (by
    simp [World.setCell, Array.getElem?_modify, h.tok])
  have := st (st (st (st (st (st h 0 v0) 1 v1) 2 v2) 3 v3) 4 v4) 5 v5
  have e : ((((((tv.setIfInBounds 0 v0).setIfInBounds 1 v1).setIfInBounds 2 v2).setIfInBounds 3 v3).setIfInBounds 4 v4).setIfInBounds 5 v5) = #[v0, v1, v2, v3, v4, v5] := by
    clear this st h
    obtain ⟨l⟩ := tv
    match l, hz with
    | [_, _, _, _, _, _], _ => simp
  rw [e] at this
  exact this
theorem ScT.setErr (h : ScT w W b T pre post s err y tv) (ev : Value) : ScT w (W.setCell ⟨b, pre.length + 1, none⟩ ev) b T pre post s ev y tv :=
  h.out ⟨h.lx.lex.set1 ev, grown_set (World.grownBy.refl W _) _ _⟩
theorem posT_calls (w W : World) (b T : Nat) (pre post : List Value) (s : ByteArray) (err : Value) (y : LSt) (tv : Array Value) (h : ScT w W b T pre post s err y tv) :
    Calls Tryz.prog 140 #[.pointer (some ⟨b, pre.length, none⟩)] W fun e w' => e = .returned (posV y) ∧ Aside0 (ScT w w' b T pre post s err y tv) := by
  refine (position_calls W b T pre post s err y h.lx.lex).mono ?_
  rintro e w' ⟨rfl, hB⟩
  exact ⟨rfl, ⟨h.below hB⟩⟩
theorem ScT.start (h : LX w b T pre post s err x) : ScT w ((w.alloc (.cells #[.int .i64 0, .string ⟨#[]⟩, .int .i64 0, .int .i64 0, .int .i64 0, .int .i64 0] 169)).alloc (.cells #[.int .i64 0, .string ⟨#[]⟩, .int .i64 0, .int .i64 0, .int .i64 0, .int .i64 0] 169)) b T pre post s err x #[.int .i64 0, .string ⟨#[]⟩, .int .i64 0, .int .i64 0, .int .i64 0, .int .i64 0] :=
  ⟨(h.alloc _).alloc _, (World.grownBy_alloc w _ (some b)).trans (World.grownBy_alloc _ _ (some b)), by
    show ((w.heap.push _).push _)[w.heap.size]? = _
    rw [Array.getElem?_push_lt (by simp), Array.getElem_push_eq], by
    show ((w.heap.push _).push _)[w.heap.size + 1]? = _
    have : (w.heap.push (.cells #[.int .i64 0, .string ⟨#[]⟩, .int .i64 0, .int .i64 0, .int .i64 0, .int .i64 0] 169)).size = w.heap.size + 1 := by simp
    rw [← this, Array.getElem?_push_size], h.lex.lt⟩
end
theorem has34 : hasR ⟨#[34]⟩ 34 = true := by kernel_rfl
structure ScanAt (w wr : World) (b T : Nat) (pre post : List Value) (s : ByteArray) (x0 y : LSt) (r : Int) : Prop where
  ex : ∃ (x : LSt) (k : Nat), y = nextS s x ∧ r = nextR s x.p ∧ LGd s x ∧ scanF s (s.size + 1) x0 = scanF s (k + 1) x ∧ s.size - x.p.toNat ≤ k
  out : ScT w wr b T pre post s .nilIface y #[.int .i64 0, .string ⟨#[]⟩, .int .i64 0, .int .i64 0, .int .i64 0, .int .i64 0]
set_option maxRecDepth 100000 in
set_option maxHeartbeats 4000000 in
theorem scanT_calls (w : World) (b T : Nat) (pre post : List Value) (s : ByteArray) (x : LSt) (h : LX w b T pre post s .nilIface x) (hk : LGd s x) :
    Calls Tryz.prog 109 #[.pointer (some ⟨b, pre.length, none⟩)] w fun e w' => ScP w w' b T pre post s (scanF s (s.size + 1) x).1 (scanF s (s.size + 1) x).2 e := by
  have HL := Aside0.mk h
  have HK := Aside0.mk hk
  have HS := Aside0.mk (ScT.start h)
  have c1 := (h.alloc (.cells #[.int .i64 0, .string ⟨#[]⟩, .int .i64 0, .int .i64 0, .int .i64 0, .int .i64 0] 169)).lex.c1
  have c1' := ((h.alloc (.cells #[.int .i64 0, .string ⟨#[]⟩, .int .i64 0, .int .i64 0, .int .i64 0, .int .i64 0] 169)).alloc (.cells #[.int .i64 0, .string ⟨#[]⟩, .int .i64 0, .int .i64 0, .int .i64 0, .int .i64 0] 169)).lex.c1
  have hu0 := Tryz.underlying169
  clear h hk
  go_enter Tryz.func109, Tryz.ntmps109
  go_wp2_with fail
  refine (next_calls _ b T pre post s .nilIface x HS.out.lx.lex HK.out.ok HS.out.lx.tb.tbl).mono ?_
  rintro e w1 ⟨rfl, hO⟩
  have HW : Aside0 (ScanAt w w1 b T pre post s x (nextS s x) (nextR s x.p)) := ⟨⟨⟨x, s.size, rfl, rfl, HK.out, rfl, by omega⟩, HS.out.out hO⟩⟩
  clear hO c1 c1' HS
  go_wp2_with fail
  go_loopw [5] (fun v5 wr => ∃ (y : LSt) (r : Int), v5 = .int .i32 r ∧ Aside0 (ScanAt w wr b T pre post s x y r)) (fun v5 wr => wordM wr b (pre.length + 3) s v5)
  case atStart => exact ⟨_, _, rfl, HW⟩
  case round =>
    obtain ⟨y, r, rfl, HR⟩ := hrel
    obtain ⟨x2, k, hy, hr, hg, hw, hm⟩ := HR.out.ex
    clear HW
    rw [show scanF s (k + 1) x2 = (match scan1 s x2 with | some z => z | none => scanF s k (skipS (nextS s x2))) from rfl] at hw
    by_cases h1 : r = -1
    · have HE : Aside0 (scanF s (s.size + 1) x = (.eof, y)) := ⟨by rw [hw]; unfold scan1; simp only [← hr, if_pos h1, hy]⟩
      subst h1
      clear hy hr hg hw hm
      have HT := Aside0.mk HR.out.out
      clear HR
      have c1 := HT.out.lx.lex.c1
      obtain ⟨a1, a2, a3, a4⟩ := HT.out.facts
      have t0 := a1 0
      have t1 := a1 1
      have t2 := a1 2
      have t3 := a1 3
      have t4 := a1 4
      have t5 := a1 5
      have z0 := a3 0
      have z1 := a3 1
      have z2 := a3 2
      have z3 := a3 3
      have z4 := a3 4
      have z5 := a3 5
      simp only [List.getElem?_toArray, List.getElem?_cons_zero, List.getElem?_cons_succ] at t0 t1 t2 t3 t4 t5 z0 z1 z2 z3 z4 z5
      clear a1 a3
      have n1 : ¬ b = w.heap.size := by have := HT.out.hb; omega
      have n2 : ¬ w.heap.size = b := by omega
      have n3 : ¬ b = w.heap.size + 1 := by have := HT.out.hb; omega
      have n4 : ¬ w.heap.size + 1 = b := by omega
      go_wp2_with fail
      go_region_held3 (fun W => W.cell? ⟨w.heap.size + 1, 0, none⟩ = some (.int .i64 0) ∧ W.cell? ⟨w.heap.size + 1, 1, none⟩ = some (.string ⟨#[]⟩) ∧ W.cell? ⟨w.heap.size + 1, 2, none⟩ = some (.int .i64 0) ∧ W.cell? ⟨w.heap.size + 1, 3, none⟩ = some (.int .i64 0) ∧ W.cell? ⟨w.heap.size + 1, 4, none⟩ = some (.int .i64 0) ∧ W.cell? ⟨w.heap.size + 1, 5, none⟩ = some (.int .i64 0) ∧ W.cell? ⟨b, pre.length + 1, none⟩ = some .nilIface) (first | go_keep) (first | fail)
      go_wp2
      have HD := Aside0.mk (HT.out.fin (.int .i64 0) (.string ⟨#[]⟩) (.int .i64 0) (.int .i64 0) (.int .i64 0) (.int .i64 0))
      generalize ((((((wr.setCell ⟨w.heap.size, 0, none⟩ (.int .i64 0)).setCell ⟨w.heap.size, 1, none⟩ (.string ⟨#[]⟩)).setCell ⟨w.heap.size, 2, none⟩ (.int .i64 0)).setCell ⟨w.heap.size, 3, none⟩ (.int .i64 0)).setCell ⟨w.heap.size, 4, none⟩ (.int .i64 0)).setCell ⟨w.heap.size, 5, none⟩ (.int .i64 0)) = W6 at HD ⊢
      obtain ⟨hc8, _⟩ := cells_in HD.out.2
      have r0 := hc8 0
      have r1 := hc8 1
      have r2 := hc8 2
      have r3 := hc8 3
      have r4 := hc8 4
      have r5 := hc8 5
      simp only [List.getElem?_toArray, List.getElem?_cons_zero, List.getElem?_cons_succ] at r0 r1 r2 r3 r4 r5
      exact bodyPost_ret (v := .tuple #[.agg #[.int .i64 0, .string ⟨#[]⟩, .int .i64 0, .int .i64 0, .int .i64 0, .int .i64 0], .nilIface]) (by simp [results, Tryz.results109, go_sem, r0, r1, r2, r3, r4, r5]) rfl (by rw [HE.out]; exact ⟨rfl, (HD.out.1.below (below_drew (Below.refl _ _)))⟩)
    have hrr := nextR_range s x2.p
    rw [← hr] at hrr
    have hg2 : Aside0 (LGd s y) := ⟨by rw [hy]; exact hg.next⟩
    have e1 : (r == -1) = false := beq_eq_false_iff_ne.2 h1
    have e1' : (r != -1) = true := bne_iff_ne.2 h1
    by_cases h2 : r = 123
    · have HE : Aside0 (scanF s (s.size + 1) x = (.tok 1, y)) := ⟨by rw [hw]; unfold scan1; simp only [← hr, if_neg h1, if_pos h2, hy]⟩
      subst h2
      clear hy hr hg hw hm h1 hrr
      have HT := Aside0.mk HR.out.out
      clear HR
      go_wp2_with fail
      refine (emit_calls _ b T pre post s .nilIface y 1 HT.out.lx.lex hg2.out.ok).mono ?_
      rintro e W1 ⟨rfl, hO⟩
      have HT1 := Aside0.mk (HT.out.out hO)
      clear hO
      unfold tokV
      have c1 := HT1.out.lx.lex.c1
      obtain ⟨a1, a2, a3, a4⟩ := HT1.out.facts
      have t0 := a1 0
      have t1 := a1 1
      have t2 := a1 2
      have t3 := a1 3
      have t4 := a1 4
      have t5 := a1 5
      have z0 := a3 0
      have z1 := a3 1
      have z2 := a3 2
      have z3 := a3 3
      have z4 := a3 4
      have z5 := a3 5
      simp only [List.getElem?_toArray, List.getElem?_cons_zero, List.getElem?_cons_succ] at t0 t1 t2 t3 t4 t5 z0 z1 z2 z3 z4 z5
      clear a1 a3
      have n1 : ¬ b = w.heap.size := by have := HT1.out.hb; omega
      have n2 : ¬ w.heap.size = b := by omega
      have n3 : ¬ b = w.heap.size + 1 := by have := HT1.out.hb; omega
      have n4 : ¬ w.heap.size + 1 = b := by omega
      go_wp2_with fail
      have HT2 := Aside0.mk (HT1.out.put rfl (.int .i64 1) (.string (s.extract y.st.toNat y.p.toNat)) (.int .i64 y.st) (.int .i64 y.p) (.int .i64 y.cl) (.int .i64 y.cs))
      generalize ((((((W1.setCell ⟨w.heap.size + 1, 0, none⟩ (.int .i64 1)).setCell ⟨w.heap.size + 1, 1, none⟩ (.string (s.extract y.st.toNat y.p.toNat))).setCell ⟨w.heap.size + 1, 2, none⟩ (.int .i64 y.st)).setCell ⟨w.heap.size + 1, 3, none⟩ (.int .i64 y.p)).setCell ⟨w.heap.size + 1, 4, none⟩ (.int .i64 y.cl)).setCell ⟨w.heap.size + 1, 5, none⟩ (.int .i64 y.cs)) = W2 at HT2 ⊢
      clear c1 t0 t1 t2 t3 t4 t5 z0 z1 z2 z3 z4 z5 a2 a4 n1 n2 n3 n4
      have c1 := HT2.out.lx.lex.c1
      obtain ⟨a1, a2, a3, a4⟩ := HT2.out.facts
      have t0 := a1 0
      have t1 := a1 1
      have t2 := a1 2
      have t3 := a1 3
      have t4 := a1 4
      have t5 := a1 5
      have z0 := a3 0
      have z1 := a3 1
      have z2 := a3 2
      have z3 := a3 3
      have z4 := a3 4
      have z5 := a3 5
      simp only [List.getElem?_toArray, List.getElem?_cons_zero, List.getElem?_cons_succ] at t0 t1 t2 t3 t4 t5 z0 z1 z2 z3 z4 z5
      clear a1 a3
      have n1 : ¬ b = w.heap.size := by have := HT2.out.hb; omega
      have n2 : ¬ w.heap.size = b := by omega
      have n3 : ¬ b = w.heap.size + 1 := by have := HT2.out.hb; omega
      have n4 : ¬ w.heap.size + 1 = b := by omega
      go_wp2_with fail
      go_region_held3 (fun W => W.cell? ⟨w.heap.size + 1, 0, none⟩ = some (.int .i64 1) ∧ W.cell? ⟨w.heap.size + 1, 1, none⟩ = some (.string (s.extract y.st.toNat y.p.toNat)) ∧ W.cell? ⟨w.heap.size + 1, 2, none⟩ = some (.int .i64 y.st) ∧ W.cell? ⟨w.heap.size + 1, 3, none⟩ = some (.int .i64 y.p) ∧ W.cell? ⟨w.heap.size + 1, 4, none⟩ = some (.int .i64 y.cl) ∧ W.cell? ⟨w.heap.size + 1, 5, none⟩ = some (.int .i64 y.cs) ∧ W.cell? ⟨b, pre.length + 1, none⟩ = some .nilIface) (first | go_keep) (first | fail)
      go_wp2
      have HD := Aside0.mk (HT2.out.fin (.int .i64 1) (.string (s.extract y.st.toNat y.p.toNat)) (.int .i64 y.st) (.int .i64 y.p) (.int .i64 y.cl) (.int .i64 y.cs))
      generalize ((((((W2.setCell ⟨w.heap.size, 0, none⟩ (.int .i64 1)).setCell ⟨w.heap.size, 1, none⟩ (.string (s.extract y.st.toNat y.p.toNat))).setCell ⟨w.heap.size, 2, none⟩ (.int .i64 y.st)).setCell ⟨w.heap.size, 3, none⟩ (.int .i64 y.p)).setCell ⟨w.heap.size, 4, none⟩ (.int .i64 y.cl)).setCell ⟨w.heap.size, 5, none⟩ (.int .i64 y.cs)) = W6 at HD ⊢
      obtain ⟨hc8, _⟩ := cells_in HD.out.2
      have r0 := hc8 0
      have r1 := hc8 1
      have r2 := hc8 2
      have r3 := hc8 3
      have r4 := hc8 4
      have r5 := hc8 5
      simp only [List.getElem?_toArray, List.getElem?_cons_zero, List.getElem?_cons_succ] at r0 r1 r2 r3 r4 r5
      exact bodyPost_ret (v := .tuple #[.agg #[.int .i64 1, .string (s.extract y.st.toNat y.p.toNat), .int .i64 y.st, .int .i64 y.p, .int .i64 y.cl, .int .i64 y.cs], .nilIface]) (by simp [results, Tryz.results109, go_sem, r0, r1, r2, r3, r4, r5]) rfl (by rw [HE.out]; exact ⟨rfl, (HD.out.1.below (below_drew (Below.refl _ _)))⟩)
    have f2 : (r == 123) = false := beq_eq_false_iff_ne.2 h2
    by_cases h3 : r = 125
    · have HE : Aside0 (scanF s (s.size + 1) x = (.tok 2, y)) := ⟨by rw [hw]; unfold scan1; simp only [← hr, if_neg h1, if_neg h2, if_pos h3, hy]⟩
      subst h3
      clear hy hr hg hw hm h1 h2 hrr
      have HT := Aside0.mk HR.out.out
      clear HR
      go_wp2_with fail
      refine (emit_calls _ b T pre post s .nilIface y 2 HT.out.lx.lex hg2.out.ok).mono ?_
      rintro e W1 ⟨rfl, hO⟩
      have HT1 := Aside0.mk (HT.out.out hO)
      clear hO
      unfold tokV
      have c1 := HT1.out.lx.lex.c1
      obtain ⟨a1, a2, a3, a4⟩ := HT1.out.facts
      have t0 := a1 0
      have t1 := a1 1
      have t2 := a1 2
      have t3 := a1 3
      have t4 := a1 4
      have t5 := a1 5
      have z0 := a3 0
      have z1 := a3 1
      have z2 := a3 2
      have z3 := a3 3
      have z4 := a3 4
      have z5 := a3 5
      simp only [List.getElem?_toArray, List.getElem?_cons_zero, List.getElem?_cons_succ] at t0 t1 t2 t3 t4 t5 z0 z1 z2 z3 z4 z5
      clear a1 a3
      have n1 : ¬ b = w.heap.size := by have := HT1.out.hb; omega
      have n2 : ¬ w.heap.size = b := by omega
      have n3 : ¬ b = w.heap.size + 1 := by have := HT1.out.hb; omega
      have n4 : ¬ w.heap.size + 1 = b := by omega
      go_wp2_with fail
      have HT2 := Aside0.mk (HT1.out.put rfl (.int .i64 2) (.string (s.extract y.st.toNat y.p.toNat)) (.int .i64 y.st) (.int .i64 y.p) (.int .i64 y.cl) (.int .i64 y.cs))
      generalize ((((((W1.setCell ⟨w.heap.size + 1, 0, none⟩ (.int .i64 2)).setCell ⟨w.heap.size + 1, 1, none⟩ (.string (s.extract y.st.toNat y.p.toNat))).setCell ⟨w.heap.size + 1, 2, none⟩ (.int .i64 y.st)).setCell ⟨w.heap.size + 1, 3, none⟩ (.int .i64 y.p)).setCell ⟨w.heap.size + 1, 4, none⟩ (.int .i64 y.cl)).setCell ⟨w.heap.size + 1, 5, none⟩ (.int .i64 y.cs)) = W2 at HT2 ⊢
      clear c1 t0 t1 t2 t3 t4 t5 z0 z1 z2 z3 z4 z5 a2 a4 n1 n2 n3 n4
      have c1 := HT2.out.lx.lex.c1
      obtain ⟨a1, a2, a3, a4⟩ := HT2.out.facts
      have t0 := a1 0
      have t1 := a1 1
      have t2 := a1 2
      have t3 := a1 3
      have t4 := a1 4
      have t5 := a1 5
      have z0 := a3 0
      have z1 := a3 1
      have z2 := a3 2
      have z3 := a3 3
      have z4 := a3 4
      have z5 := a3 5
      simp only [List.getElem?_toArray, List.getElem?_cons_zero, List.getElem?_cons_succ] at t0 t1 t2 t3 t4 t5 z0 z1 z2 z3 z4 z5
      clear a1 a3
      have n1 : ¬ b = w.heap.size := by have := HT2.out.hb; omega
      have n2 : ¬ w.heap.size = b := by omega
      have n3 : ¬ b = w.heap.size + 1 := by have := HT2.out.hb; omega
      have n4 : ¬ w.heap.size + 1 = b := by omega
      go_wp2_with fail
      go_region_held3 (fun W => W.cell? ⟨w.heap.size + 1, 0, none⟩ = some (.int .i64 2) ∧ W.cell? ⟨w.heap.size + 1, 1, none⟩ = some (.string (s.extract y.st.toNat y.p.toNat)) ∧ W.cell? ⟨w.heap.size + 1, 2, none⟩ = some (.int .i64 y.st) ∧ W.cell? ⟨w.heap.size + 1, 3, none⟩ = some (.int .i64 y.p) ∧ W.cell? ⟨w.heap.size + 1, 4, none⟩ = some (.int .i64 y.cl) ∧ W.cell? ⟨w.heap.size + 1, 5, none⟩ = some (.int .i64 y.cs) ∧ W.cell? ⟨b, pre.length + 1, none⟩ = some .nilIface) (first | go_keep) (first | fail)
      go_wp2
      have HD := Aside0.mk (HT2.out.fin (.int .i64 2) (.string (s.extract y.st.toNat y.p.toNat)) (.int .i64 y.st) (.int .i64 y.p) (.int .i64 y.cl) (.int .i64 y.cs))
      generalize ((((((W2.setCell ⟨w.heap.size, 0, none⟩ (.int .i64 2)).setCell ⟨w.heap.size, 1, none⟩ (.string (s.extract y.st.toNat y.p.toNat))).setCell ⟨w.heap.size, 2, none⟩ (.int .i64 y.st)).setCell ⟨w.heap.size, 3, none⟩ (.int .i64 y.p)).setCell ⟨w.heap.size, 4, none⟩ (.int .i64 y.cl)).setCell ⟨w.heap.size, 5, none⟩ (.int .i64 y.cs)) = W6 at HD ⊢
      obtain ⟨hc8, _⟩ := cells_in HD.out.2
      have r0 := hc8 0
      have r1 := hc8 1
      have r2 := hc8 2
      have r3 := hc8 3
      have r4 := hc8 4
      have r5 := hc8 5
      simp only [List.getElem?_toArray, List.getElem?_cons_zero, List.getElem?_cons_succ] at r0 r1 r2 r3 r4 r5
      exact bodyPost_ret (v := .tuple #[.agg #[.int .i64 2, .string (s.extract y.st.toNat y.p.toNat), .int .i64 y.st, .int .i64 y.p, .int .i64 y.cl, .int .i64 y.cs], .nilIface]) (by simp [results, Tryz.results109, go_sem, r0, r1, r2, r3, r4, r5]) rfl (by rw [HE.out]; exact ⟨rfl, (HD.out.1.below (below_drew (Below.refl _ _)))⟩)
    have f3 : (r == 125) = false := beq_eq_false_iff_ne.2 h3
    by_cases h4 : r = 44
    · have HE : Aside0 (scanF s (s.size + 1) x = (.tok 3, y)) := ⟨by rw [hw]; unfold scan1; simp only [← hr, if_neg h1, if_neg h2, if_neg h3, if_pos h4, hy]⟩
      subst h4
      clear hy hr hg hw hm h1 h2 h3 hrr
      have HT := Aside0.mk HR.out.out
      clear HR
      go_wp2_with fail
      refine (emit_calls _ b T pre post s .nilIface y 3 HT.out.lx.lex hg2.out.ok).mono ?_
      rintro e W1 ⟨rfl, hO⟩
      have HT1 := Aside0.mk (HT.out.out hO)
      clear hO
      unfold tokV
      have c1 := HT1.out.lx.lex.c1
      obtain ⟨a1, a2, a3, a4⟩ := HT1.out.facts
      have t0 := a1 0
      have t1 := a1 1
      have t2 := a1 2
      have t3 := a1 3
      have t4 := a1 4
      have t5 := a1 5
      have z0 := a3 0
      have z1 := a3 1
      have z2 := a3 2
      have z3 := a3 3
      have z4 := a3 4
      have z5 := a3 5
      simp only [List.getElem?_toArray, List.getElem?_cons_zero, List.getElem?_cons_succ] at t0 t1 t2 t3 t4 t5 z0 z1 z2 z3 z4 z5
      clear a1 a3
      have n1 : ¬ b = w.heap.size := by have := HT1.out.hb; omega
      have n2 : ¬ w.heap.size = b := by omega
      have n3 : ¬ b = w.heap.size + 1 := by have := HT1.out.hb; omega
      have n4 : ¬ w.heap.size + 1 = b := by omega
      go_wp2_with fail
      have HT2 := Aside0.mk (HT1.out.put rfl (.int .i64 3) (.string (s.extract y.st.toNat y.p.toNat)) (.int .i64 y.st) (.int .i64 y.p) (.int .i64 y.cl) (.int .i64 y.cs))
      generalize ((((((W1.setCell ⟨w.heap.size + 1, 0, none⟩ (.int .i64 3)).setCell ⟨w.heap.size + 1, 1, none⟩ (.string (s.extract y.st.toNat y.p.toNat))).setCell ⟨w.heap.size + 1, 2, none⟩ (.int .i64 y.st)).setCell ⟨w.heap.size + 1, 3, none⟩ (.int .i64 y.p)).setCell ⟨w.heap.size + 1, 4, none⟩ (.int .i64 y.cl)).setCell ⟨w.heap.size + 1, 5, none⟩ (.int .i64 y.cs)) = W2 at HT2 ⊢
      clear c1 t0 t1 t2 t3 t4 t5 z0 z1 z2 z3 z4 z5 a2 a4 n1 n2 n3 n4
      have c1 := HT2.out.lx.lex.c1
      obtain ⟨a1, a2, a3, a4⟩ := HT2.out.facts
      have t0 := a1 0
      have t1 := a1 1
      have t2 := a1 2
      have t3 := a1 3
      have t4 := a1 4
      have t5 := a1 5
      have z0 := a3 0
      have z1 := a3 1
      have z2 := a3 2
      have z3 := a3 3
      have z4 := a3 4
      have z5 := a3 5
      simp only [List.getElem?_toArray, List.getElem?_cons_zero, List.getElem?_cons_succ] at t0 t1 t2 t3 t4 t5 z0 z1 z2 z3 z4 z5
      clear a1 a3
      have n1 : ¬ b = w.heap.size := by have := HT2.out.hb; omega
      have n2 : ¬ w.heap.size = b := by omega
      have n3 : ¬ b = w.heap.size + 1 := by have := HT2.out.hb; omega
      have n4 : ¬ w.heap.size + 1 = b := by omega
      go_wp2_with fail
      go_region_held3 (fun W => W.cell? ⟨w.heap.size + 1, 0, none⟩ = some (.int .i64 3) ∧ W.cell? ⟨w.heap.size + 1, 1, none⟩ = some (.string (s.extract y.st.toNat y.p.toNat)) ∧ W.cell? ⟨w.heap.size + 1, 2, none⟩ = some (.int .i64 y.st) ∧ W.cell? ⟨w.heap.size + 1, 3, none⟩ = some (.int .i64 y.p) ∧ W.cell? ⟨w.heap.size + 1, 4, none⟩ = some (.int .i64 y.cl) ∧ W.cell? ⟨w.heap.size + 1, 5, none⟩ = some (.int .i64 y.cs) ∧ W.cell? ⟨b, pre.length + 1, none⟩ = some .nilIface) (first | go_keep) (first | fail)
      go_wp2
      have HD := Aside0.mk (HT2.out.fin (.int .i64 3) (.string (s.extract y.st.toNat y.p.toNat)) (.int .i64 y.st) (.int .i64 y.p) (.int .i64 y.cl) (.int .i64 y.cs))
      generalize ((((((W2.setCell ⟨w.heap.size, 0, none⟩ (.int .i64 3)).setCell ⟨w.heap.size, 1, none⟩ (.string (s.extract y.st.toNat y.p.toNat))).setCell ⟨w.heap.size, 2, none⟩ (.int .i64 y.st)).setCell ⟨w.heap.size, 3, none⟩ (.int .i64 y.p)).setCell ⟨w.heap.size, 4, none⟩ (.int .i64 y.cl)).setCell ⟨w.heap.size, 5, none⟩ (.int .i64 y.cs)) = W6 at HD ⊢
      obtain ⟨hc8, _⟩ := cells_in HD.out.2
      have r0 := hc8 0
      have r1 := hc8 1
      have r2 := hc8 2
      have r3 := hc8 3
      have r4 := hc8 4
      have r5 := hc8 5
      simp only [List.getElem?_toArray, List.getElem?_cons_zero, List.getElem?_cons_succ] at r0 r1 r2 r3 r4 r5
      exact bodyPost_ret (v := .tuple #[.agg #[.int .i64 3, .string (s.extract y.st.toNat y.p.toNat), .int .i64 y.st, .int .i64 y.p, .int .i64 y.cl, .int .i64 y.cs], .nilIface]) (by simp [results, Tryz.results109, go_sem, r0, r1, r2, r3, r4, r5]) rfl (by rw [HE.out]; exact ⟨rfl, (HD.out.1.below (below_drew (Below.refl _ _)))⟩)
    have f4 : (r == 44) = false := beq_eq_false_iff_ne.2 h4
    have HBK : Aside0 (backS y = { x2 with wd := y.wd }) := ⟨by rw [hy]; exact back_next hg⟩
    have HGB : Aside0 (LGd s (backS y)) := ⟨by rw [hy]; exact hg.back⟩
    by_cases h5 : r = 61 ∨ r = 33
    · have HE : Aside0 (scanF s (s.size + 1) x = (Sc.of (opF s (backS y)).1, (opF s (backS y)).2)) := ⟨by rw [hw]; unfold scan1; simp only [← hr, if_neg h1, if_neg h2, if_neg h3, if_neg h4, if_pos h5, hy]⟩
      have h5' : (r == 61) = true ∨ ((r == 61) = false ∧ (r == 33) = true) := by
        by_cases h : r = 61
        · exact Or.inl (by rw [h]; rfl)
        · exact Or.inr ⟨beq_eq_false_iff_ne.2 h, by rw [h5.resolve_left h]; rfl⟩
      clear hy hr hg hw hm h1 h2 h3 h4 h5 hrr
      have HT := Aside0.mk HR.out.out
      clear HR
      rcases h5' with g1 | ⟨g1, g2⟩
      all_goals
        go_wp2_with fail
        refine (rewind_calls _ b T pre post s .nilIface y HT.out.lx.lex hg2.out.ok).mono ?_
        rintro e W1 ⟨rfl, hO⟩
        have HT1 := Aside0.mk (HT.out.out hO)
        clear hO
        go_wp2_with fail
        refine (scanOperator_calls _ b T pre post s .nilIface (backS y) HT1.out.lx HGB.out).mono ?_
        rintro e W2 ⟨hE, hO⟩
        have HT2 := Aside0.mk (HT1.out.out hO)
        clear hO
        obtain ⟨o, ho⟩ : ∃ o, (opF s (backS y)).1 = o := ⟨_, rfl⟩
        obtain ⟨yq, hyq⟩ : ∃ o, (opF s (backS y)).2 = o := ⟨_, rfl⟩
        rw [ho, hyq] at hE HT2 HE
        clear ho hyq HT1
        cases o with
        | none =>
          obtain ⟨ev, rfl, hev⟩ := hE
          obtain ⟨ti, pv, rfl, hti⟩ := hev
          unfold tok0
          unfold resS at HT2
          have c1 := HT2.out.lx.lex.c1
          obtain ⟨a1, a2, a3, a4⟩ := HT2.out.facts
          have t0 := a1 0
          have t1 := a1 1
          have t2 := a1 2
          have t3 := a1 3
          have t4 := a1 4
          have t5 := a1 5
          have z0 := a3 0
          have z1 := a3 1
          have z2 := a3 2
          have z3 := a3 3
          have z4 := a3 4
          have z5 := a3 5
          simp only [List.getElem?_toArray, List.getElem?_cons_zero, List.getElem?_cons_succ] at t0 t1 t2 t3 t4 t5 z0 z1 z2 z3 z4 z5
          clear a1 a3
          have n1 : ¬ b = w.heap.size := by have := HT2.out.hb; omega
          have n2 : ¬ w.heap.size = b := by omega
          have n3 : ¬ b = w.heap.size + 1 := by have := HT2.out.hb; omega
          have n4 : ¬ w.heap.size + 1 = b := by omega
          have f1 := HT2.out.lx.lex.free (pre.length + 1)
          go_wp2_with fail
          have HT3 := Aside0.mk ((HT2.out.put rfl (.int .i64 0) (.string ⟨#[]⟩) (.int .i64 0) (.int .i64 0) (.int .i64 0) (.int .i64 0)).setErr (.iface ti pv))
          generalize (((((((W2.setCell ⟨w.heap.size + 1, 0, none⟩ (.int .i64 0)).setCell ⟨w.heap.size + 1, 1, none⟩ (.string ⟨#[]⟩)).setCell ⟨w.heap.size + 1, 2, none⟩ (.int .i64 0)).setCell ⟨w.heap.size + 1, 3, none⟩ (.int .i64 0)).setCell ⟨w.heap.size + 1, 4, none⟩ (.int .i64 0)).setCell ⟨w.heap.size + 1, 5, none⟩ (.int .i64 0)).setCell ⟨b, pre.length + 1, none⟩ (.iface ti pv)) = W3 at HT3 ⊢
          clear c1 t0 t1 t2 t3 t4 t5 z0 z1 z2 z3 z4 z5 a2 a4 n1 n2 n3 n4 f1
          have c1 := HT3.out.lx.lex.c1
          obtain ⟨a1, a2, a3, a4⟩ := HT3.out.facts
          have t0 := a1 0
          have t1 := a1 1
          have t2 := a1 2
          have t3 := a1 3
          have t4 := a1 4
          have t5 := a1 5
          have z0 := a3 0
          have z1 := a3 1
          have z2 := a3 2
          have z3 := a3 3
          have z4 := a3 4
          have z5 := a3 5
          simp only [List.getElem?_toArray, List.getElem?_cons_zero, List.getElem?_cons_succ] at t0 t1 t2 t3 t4 t5 z0 z1 z2 z3 z4 z5
          clear a1 a3
          have n1 : ¬ b = w.heap.size := by have := HT3.out.hb; omega
          have n2 : ¬ w.heap.size = b := by omega
          have n3 : ¬ b = w.heap.size + 1 := by have := HT3.out.hb; omega
          have n4 : ¬ w.heap.size + 1 = b := by omega
          go_wp2_with fail
          go_region_held3 (fun W => W.cell? ⟨w.heap.size + 1, 0, none⟩ = some (.int .i64 0) ∧ W.cell? ⟨w.heap.size + 1, 1, none⟩ = some (.string ⟨#[]⟩) ∧ W.cell? ⟨w.heap.size + 1, 2, none⟩ = some (.int .i64 0) ∧ W.cell? ⟨w.heap.size + 1, 3, none⟩ = some (.int .i64 0) ∧ W.cell? ⟨w.heap.size + 1, 4, none⟩ = some (.int .i64 0) ∧ W.cell? ⟨w.heap.size + 1, 5, none⟩ = some (.int .i64 0) ∧ W.cell? ⟨b, pre.length + 1, none⟩ = some (.iface ti pv)) (first | go_keep) (first | fail)
          go_wp2
          have HD := Aside0.mk (HT3.out.fin (.int .i64 0) (.string ⟨#[]⟩) (.int .i64 0) (.int .i64 0) (.int .i64 0) (.int .i64 0))
          generalize ((((((W3.setCell ⟨w.heap.size, 0, none⟩ (.int .i64 0)).setCell ⟨w.heap.size, 1, none⟩ (.string ⟨#[]⟩)).setCell ⟨w.heap.size, 2, none⟩ (.int .i64 0)).setCell ⟨w.heap.size, 3, none⟩ (.int .i64 0)).setCell ⟨w.heap.size, 4, none⟩ (.int .i64 0)).setCell ⟨w.heap.size, 5, none⟩ (.int .i64 0)) = W6 at HD ⊢
          obtain ⟨hc8, _⟩ := cells_in HD.out.2
          have r0 := hc8 0
          have r1 := hc8 1
          have r2 := hc8 2
          have r3 := hc8 3
          have r4 := hc8 4
          have r5 := hc8 5
          simp only [List.getElem?_toArray, List.getElem?_cons_zero, List.getElem?_cons_succ] at r0 r1 r2 r3 r4 r5
          exact bodyPost_ret (v := .tuple #[.agg #[.int .i64 0, .string ⟨#[]⟩, .int .i64 0, .int .i64 0, .int .i64 0, .int .i64 0], (.iface ti pv)]) (by simp [results, Tryz.results109, go_sem, r0, r1, r2, r3, r4, r5]) rfl (by rw [HE.out]; exact ⟨_, ⟨_, _, rfl, hti⟩, rfl, (HD.out.1.below (below_drew (Below.refl _ _)))⟩)
        | some kd =>
          obtain rfl := hE
          unfold tokV
          unfold resS at HT2
          have c1 := HT2.out.lx.lex.c1
          obtain ⟨a1, a2, a3, a4⟩ := HT2.out.facts
          have t0 := a1 0
          have t1 := a1 1
          have t2 := a1 2
          have t3 := a1 3
          have t4 := a1 4
          have t5 := a1 5
          have z0 := a3 0
          have z1 := a3 1
          have z2 := a3 2
          have z3 := a3 3
          have z4 := a3 4
          have z5 := a3 5
          simp only [List.getElem?_toArray, List.getElem?_cons_zero, List.getElem?_cons_succ] at t0 t1 t2 t3 t4 t5 z0 z1 z2 z3 z4 z5
          clear a1 a3
          have n1 : ¬ b = w.heap.size := by have := HT2.out.hb; omega
          have n2 : ¬ w.heap.size = b := by omega
          have n3 : ¬ b = w.heap.size + 1 := by have := HT2.out.hb; omega
          have n4 : ¬ w.heap.size + 1 = b := by omega
          have f1 := HT2.out.lx.lex.free (pre.length + 1)
          go_wp2_with fail
          have HT3 := Aside0.mk ((HT2.out.put rfl (.int .i64 kd) (.string (s.extract yq.st.toNat yq.p.toNat)) (.int .i64 yq.st) (.int .i64 yq.p) (.int .i64 yq.cl) (.int .i64 yq.cs)).setErr .nilIface)
          generalize (((((((W2.setCell ⟨w.heap.size + 1, 0, none⟩ (.int .i64 kd)).setCell ⟨w.heap.size + 1, 1, none⟩ (.string (s.extract yq.st.toNat yq.p.toNat))).setCell ⟨w.heap.size + 1, 2, none⟩ (.int .i64 yq.st)).setCell ⟨w.heap.size + 1, 3, none⟩ (.int .i64 yq.p)).setCell ⟨w.heap.size + 1, 4, none⟩ (.int .i64 yq.cl)).setCell ⟨w.heap.size + 1, 5, none⟩ (.int .i64 yq.cs)).setCell ⟨b, pre.length + 1, none⟩ .nilIface) = W3 at HT3 ⊢
          clear c1 t0 t1 t2 t3 t4 t5 z0 z1 z2 z3 z4 z5 a2 a4 n1 n2 n3 n4 f1
          have c1 := HT3.out.lx.lex.c1
          obtain ⟨a1, a2, a3, a4⟩ := HT3.out.facts
          have t0 := a1 0
          have t1 := a1 1
          have t2 := a1 2
          have t3 := a1 3
          have t4 := a1 4
          have t5 := a1 5
          have z0 := a3 0
          have z1 := a3 1
          have z2 := a3 2
          have z3 := a3 3
          have z4 := a3 4
          have z5 := a3 5
          simp only [List.getElem?_toArray, List.getElem?_cons_zero, List.getElem?_cons_succ] at t0 t1 t2 t3 t4 t5 z0 z1 z2 z3 z4 z5
          clear a1 a3
          have n1 : ¬ b = w.heap.size := by have := HT3.out.hb; omega
          have n2 : ¬ w.heap.size = b := by omega
          have n3 : ¬ b = w.heap.size + 1 := by have := HT3.out.hb; omega
          have n4 : ¬ w.heap.size + 1 = b := by omega
          go_wp2_with fail
          go_region_held3 (fun W => W.cell? ⟨w.heap.size + 1, 0, none⟩ = some (.int .i64 kd) ∧ W.cell? ⟨w.heap.size + 1, 1, none⟩ = some (.string (s.extract yq.st.toNat yq.p.toNat)) ∧ W.cell? ⟨w.heap.size + 1, 2, none⟩ = some (.int .i64 yq.st) ∧ W.cell? ⟨w.heap.size + 1, 3, none⟩ = some (.int .i64 yq.p) ∧ W.cell? ⟨w.heap.size + 1, 4, none⟩ = some (.int .i64 yq.cl) ∧ W.cell? ⟨w.heap.size + 1, 5, none⟩ = some (.int .i64 yq.cs) ∧ W.cell? ⟨b, pre.length + 1, none⟩ = some .nilIface) (first | go_keep) (first | fail)
          go_wp2
          have HD := Aside0.mk (HT3.out.fin (.int .i64 kd) (.string (s.extract yq.st.toNat yq.p.toNat)) (.int .i64 yq.st) (.int .i64 yq.p) (.int .i64 yq.cl) (.int .i64 yq.cs))
          generalize ((((((W3.setCell ⟨w.heap.size, 0, none⟩ (.int .i64 kd)).setCell ⟨w.heap.size, 1, none⟩ (.string (s.extract yq.st.toNat yq.p.toNat))).setCell ⟨w.heap.size, 2, none⟩ (.int .i64 yq.st)).setCell ⟨w.heap.size, 3, none⟩ (.int .i64 yq.p)).setCell ⟨w.heap.size, 4, none⟩ (.int .i64 yq.cl)).setCell ⟨w.heap.size, 5, none⟩ (.int .i64 yq.cs)) = W6 at HD ⊢
          obtain ⟨hc8, _⟩ := cells_in HD.out.2
          have r0 := hc8 0
          have r1 := hc8 1
          have r2 := hc8 2
          have r3 := hc8 3
          have r4 := hc8 4
          have r5 := hc8 5
          simp only [List.getElem?_toArray, List.getElem?_cons_zero, List.getElem?_cons_succ] at r0 r1 r2 r3 r4 r5
          exact bodyPost_ret (v := .tuple #[.agg #[.int .i64 kd, .string (s.extract yq.st.toNat yq.p.toNat), .int .i64 yq.st, .int .i64 yq.p, .int .i64 yq.cl, .int .i64 yq.cs], .nilIface]) (by simp [results, Tryz.results109, go_sem, r0, r1, r2, r3, r4, r5]) rfl (by rw [HE.out]; exact ⟨rfl, (HD.out.1.below (below_drew (Below.refl _ _)))⟩)
    have f5 : (r == 61) = false := beq_eq_false_iff_ne.2 (fun h => h5 (Or.inl h))
    have f6 : (r == 33) = false := beq_eq_false_iff_ne.2 (fun h => h5 (Or.inr h))
    by_cases h6 : r = 34
    · have HE : Aside0 (scanF s (s.size + 1) x = (Sc.of (quoF s (backS y)).1, (quoF s (backS y)).2)) := ⟨by rw [hw]; unfold scan1; simp only [← hr, if_neg h1, if_neg h2, if_neg h3, if_neg h4, if_neg h5, if_pos h6, hy]⟩
      have hb1 : acB s (backS y) ⟨#[34]⟩ = true := by
        unfold acB
        rw [HBK.out]
        show hasR _ (nextR s x2.p) = true
        rw [← hr, h6]
        exact has34
      have hqf : quoF s (backS y) = (if acB s (quotS s (s.size + 1) false (acS s (backS y) ⟨#[34]⟩)) ⟨#[34]⟩ then some 8 else none, acS s (quotS s (s.size + 1) false (acS s (backS y) ⟨#[34]⟩)) ⟨#[34]⟩) := by unfold quoF; rw [if_pos hb1]
      obtain ⟨o, ho⟩ : ∃ o, (if acB s (quotS s (s.size + 1) false (acS s (backS y) ⟨#[34]⟩)) ⟨#[34]⟩ then some 8 else none : Option Int) = o := ⟨_, rfl⟩
      obtain ⟨yq, hyq⟩ : ∃ o, acS s (quotS s (s.size + 1) false (acS s (backS y) ⟨#[34]⟩)) ⟨#[34]⟩ = o := ⟨_, rfl⟩
      rw [ho, hyq] at hqf
      rw [hqf] at HE
      have HB1 := Aside0.mk hb1
      have HO9 := Aside0.mk ho
      have HY9 := Aside0.mk hyq
      subst h6
      clear hy hr hg hw hm h1 h2 h3 h4 h5 hrr hb1 ho hyq hqf
      have HT := Aside0.mk HR.out.out
      clear HR
      go_wp2_with fail
      refine (rewind_calls _ b T pre post s .nilIface y HT.out.lx.lex hg2.out.ok).mono ?_
      rintro e W1 ⟨rfl, hO⟩
      have HT1 := Aside0.mk (HT.out.out hO)
      clear hO
      go_wp2_with fail
      refine (scanQuoted1_calls _ b T pre post s .nilIface (backS y) _ _ _ _ HB1.out rfl rfl HY9.out HO9.out HT1.out.lx HGB.out).mono ?_
      rintro e W2 ⟨hE, hO⟩
      have HT2 := Aside0.mk (HT1.out.out hO)
      clear hO HT1
      cases o with
      | none =>
        obtain ⟨ev, rfl, hev⟩ := hE
        obtain ⟨ti, pv, rfl, hti⟩ := hev
        unfold tok0
        unfold resS at HT2
        have c1 := HT2.out.lx.lex.c1
        obtain ⟨a1, a2, a3, a4⟩ := HT2.out.facts
        have t0 := a1 0
        have t1 := a1 1
        have t2 := a1 2
        have t3 := a1 3
        have t4 := a1 4
        have t5 := a1 5
        have z0 := a3 0
        have z1 := a3 1
        have z2 := a3 2
        have z3 := a3 3
        have z4 := a3 4
        have z5 := a3 5
        simp only [List.getElem?_toArray, List.getElem?_cons_zero, List.getElem?_cons_succ] at t0 t1 t2 t3 t4 t5 z0 z1 z2 z3 z4 z5
        clear a1 a3
        have n1 : ¬ b = w.heap.size := by have := HT2.out.hb; omega
        have n2 : ¬ w.heap.size = b := by omega
        have n3 : ¬ b = w.heap.size + 1 := by have := HT2.out.hb; omega
        have n4 : ¬ w.heap.size + 1 = b := by omega
        have f1 := HT2.out.lx.lex.free (pre.length + 1)
        go_wp2_with fail
        have HT3 := Aside0.mk ((HT2.out.put rfl (.int .i64 0) (.string ⟨#[]⟩) (.int .i64 0) (.int .i64 0) (.int .i64 0) (.int .i64 0)).setErr (.iface ti pv))
        generalize (((((((W2.setCell ⟨w.heap.size + 1, 0, none⟩ (.int .i64 0)).setCell ⟨w.heap.size + 1, 1, none⟩ (.string ⟨#[]⟩)).setCell ⟨w.heap.size + 1, 2, none⟩ (.int .i64 0)).setCell ⟨w.heap.size + 1, 3, none⟩ (.int .i64 0)).setCell ⟨w.heap.size + 1, 4, none⟩ (.int .i64 0)).setCell ⟨w.heap.size + 1, 5, none⟩ (.int .i64 0)).setCell ⟨b, pre.length + 1, none⟩ (.iface ti pv)) = W3 at HT3 ⊢
        clear c1 t0 t1 t2 t3 t4 t5 z0 z1 z2 z3 z4 z5 a2 a4 n1 n2 n3 n4 f1
        have c1 := HT3.out.lx.lex.c1
        obtain ⟨a1, a2, a3, a4⟩ := HT3.out.facts
        have t0 := a1 0
        have t1 := a1 1
        have t2 := a1 2
        have t3 := a1 3
        have t4 := a1 4
        have t5 := a1 5
        have z0 := a3 0
        have z1 := a3 1
        have z2 := a3 2
        have z3 := a3 3
        have z4 := a3 4
        have z5 := a3 5
        simp only [List.getElem?_toArray, List.getElem?_cons_zero, List.getElem?_cons_succ] at t0 t1 t2 t3 t4 t5 z0 z1 z2 z3 z4 z5
        clear a1 a3
        have n1 : ¬ b = w.heap.size := by have := HT3.out.hb; omega
        have n2 : ¬ w.heap.size = b := by omega
        have n3 : ¬ b = w.heap.size + 1 := by have := HT3.out.hb; omega
        have n4 : ¬ w.heap.size + 1 = b := by omega
        go_wp2_with fail
        go_region_held3 (fun W => W.cell? ⟨w.heap.size + 1, 0, none⟩ = some (.int .i64 0) ∧ W.cell? ⟨w.heap.size + 1, 1, none⟩ = some (.string ⟨#[]⟩) ∧ W.cell? ⟨w.heap.size + 1, 2, none⟩ = some (.int .i64 0) ∧ W.cell? ⟨w.heap.size + 1, 3, none⟩ = some (.int .i64 0) ∧ W.cell? ⟨w.heap.size + 1, 4, none⟩ = some (.int .i64 0) ∧ W.cell? ⟨w.heap.size + 1, 5, none⟩ = some (.int .i64 0) ∧ W.cell? ⟨b, pre.length + 1, none⟩ = some (.iface ti pv)) (first | go_keep) (first | fail)
        go_wp2
        have HD := Aside0.mk (HT3.out.fin (.int .i64 0) (.string ⟨#[]⟩) (.int .i64 0) (.int .i64 0) (.int .i64 0) (.int .i64 0))
        generalize ((((((W3.setCell ⟨w.heap.size, 0, none⟩ (.int .i64 0)).setCell ⟨w.heap.size, 1, none⟩ (.string ⟨#[]⟩)).setCell ⟨w.heap.size, 2, none⟩ (.int .i64 0)).setCell ⟨w.heap.size, 3, none⟩ (.int .i64 0)).setCell ⟨w.heap.size, 4, none⟩ (.int .i64 0)).setCell ⟨w.heap.size, 5, none⟩ (.int .i64 0)) = W6 at HD ⊢
        obtain ⟨hc8, _⟩ := cells_in HD.out.2
        have r0 := hc8 0
        have r1 := hc8 1
        have r2 := hc8 2
        have r3 := hc8 3
        have r4 := hc8 4
        have r5 := hc8 5
        simp only [List.getElem?_toArray, List.getElem?_cons_zero, List.getElem?_cons_succ] at r0 r1 r2 r3 r4 r5
        exact bodyPost_ret (v := .tuple #[.agg #[.int .i64 0, .string ⟨#[]⟩, .int .i64 0, .int .i64 0, .int .i64 0, .int .i64 0], (.iface ti pv)]) (by simp [results, Tryz.results109, go_sem, r0, r1, r2, r3, r4, r5]) rfl (by rw [HE.out]; exact ⟨_, ⟨_, _, rfl, hti⟩, rfl, (HD.out.1.below (below_drew (Below.refl _ _)))⟩)
      | some kd =>
        obtain rfl := hE
        unfold tokV
        unfold resS at HT2
        have c1 := HT2.out.lx.lex.c1
        obtain ⟨a1, a2, a3, a4⟩ := HT2.out.facts
        have t0 := a1 0
        have t1 := a1 1
        have t2 := a1 2
        have t3 := a1 3
        have t4 := a1 4
        have t5 := a1 5
        have z0 := a3 0
        have z1 := a3 1
        have z2 := a3 2
        have z3 := a3 3
        have z4 := a3 4
        have z5 := a3 5
        simp only [List.getElem?_toArray, List.getElem?_cons_zero, List.getElem?_cons_succ] at t0 t1 t2 t3 t4 t5 z0 z1 z2 z3 z4 z5
        clear a1 a3
        have n1 : ¬ b = w.heap.size := by have := HT2.out.hb; omega
        have n2 : ¬ w.heap.size = b := by omega
        have n3 : ¬ b = w.heap.size + 1 := by have := HT2.out.hb; omega
        have n4 : ¬ w.heap.size + 1 = b := by omega
        have f1 := HT2.out.lx.lex.free (pre.length + 1)
        go_wp2_with fail
        have HT3 := Aside0.mk ((HT2.out.put rfl (.int .i64 kd) (.string (s.extract yq.st.toNat yq.p.toNat)) (.int .i64 yq.st) (.int .i64 yq.p) (.int .i64 yq.cl) (.int .i64 yq.cs)).setErr .nilIface)
        generalize (((((((W2.setCell ⟨w.heap.size + 1, 0, none⟩ (.int .i64 kd)).setCell ⟨w.heap.size + 1, 1, none⟩ (.string (s.extract yq.st.toNat yq.p.toNat))).setCell ⟨w.heap.size + 1, 2, none⟩ (.int .i64 yq.st)).setCell ⟨w.heap.size + 1, 3, none⟩ (.int .i64 yq.p)).setCell ⟨w.heap.size + 1, 4, none⟩ (.int .i64 yq.cl)).setCell ⟨w.heap.size + 1, 5, none⟩ (.int .i64 yq.cs)).setCell ⟨b, pre.length + 1, none⟩ .nilIface) = W3 at HT3 ⊢
        clear c1 t0 t1 t2 t3 t4 t5 z0 z1 z2 z3 z4 z5 a2 a4 n1 n2 n3 n4 f1
        have c1 := HT3.out.lx.lex.c1
        obtain ⟨a1, a2, a3, a4⟩ := HT3.out.facts
        have t0 := a1 0
        have t1 := a1 1
        have t2 := a1 2
        have t3 := a1 3
        have t4 := a1 4
        have t5 := a1 5
        have z0 := a3 0
        have z1 := a3 1
        have z2 := a3 2
        have z3 := a3 3
        have z4 := a3 4
        have z5 := a3 5
        simp only [List.getElem?_toArray, List.getElem?_cons_zero, List.getElem?_cons_succ] at t0 t1 t2 t3 t4 t5 z0 z1 z2 z3 z4 z5
        clear a1 a3
        have n1 : ¬ b = w.heap.size := by have := HT3.out.hb; omega
        have n2 : ¬ w.heap.size = b := by omega
        have n3 : ¬ b = w.heap.size + 1 := by have := HT3.out.hb; omega
        have n4 : ¬ w.heap.size + 1 = b := by omega
        go_wp2_with fail
        go_region_held3 (fun W => W.cell? ⟨w.heap.size + 1, 0, none⟩ = some (.int .i64 kd) ∧ W.cell? ⟨w.heap.size + 1, 1, none⟩ = some (.string (s.extract yq.st.toNat yq.p.toNat)) ∧ W.cell? ⟨w.heap.size + 1, 2, none⟩ = some (.int .i64 yq.st) ∧ W.cell? ⟨w.heap.size + 1, 3, none⟩ = some (.int .i64 yq.p) ∧ W.cell? ⟨w.heap.size + 1, 4, none⟩ = some (.int .i64 yq.cl) ∧ W.cell? ⟨w.heap.size + 1, 5, none⟩ = some (.int .i64 yq.cs) ∧ W.cell? ⟨b, pre.length + 1, none⟩ = some .nilIface) (first | go_keep) (first | fail)
        go_wp2
        have HD := Aside0.mk (HT3.out.fin (.int .i64 kd) (.string (s.extract yq.st.toNat yq.p.toNat)) (.int .i64 yq.st) (.int .i64 yq.p) (.int .i64 yq.cl) (.int .i64 yq.cs))
        generalize ((((((W3.setCell ⟨w.heap.size, 0, none⟩ (.int .i64 kd)).setCell ⟨w.heap.size, 1, none⟩ (.string (s.extract yq.st.toNat yq.p.toNat))).setCell ⟨w.heap.size, 2, none⟩ (.int .i64 yq.st)).setCell ⟨w.heap.size, 3, none⟩ (.int .i64 yq.p)).setCell ⟨w.heap.size, 4, none⟩ (.int .i64 yq.cl)).setCell ⟨w.heap.size, 5, none⟩ (.int .i64 yq.cs)) = W6 at HD ⊢
        obtain ⟨hc8, _⟩ := cells_in HD.out.2
        have r0 := hc8 0
        have r1 := hc8 1
        have r2 := hc8 2
        have r3 := hc8 3
        have r4 := hc8 4
        have r5 := hc8 5
        simp only [List.getElem?_toArray, List.getElem?_cons_zero, List.getElem?_cons_succ] at r0 r1 r2 r3 r4 r5
        exact bodyPost_ret (v := .tuple #[.agg #[.int .i64 kd, .string (s.extract yq.st.toNat yq.p.toNat), .int .i64 yq.st, .int .i64 yq.p, .int .i64 yq.cl, .int .i64 yq.cs], .nilIface]) (by simp [results, Tryz.results109, go_sem, r0, r1, r2, r3, r4, r5]) rfl (by rw [HE.out]; exact ⟨rfl, (HD.out.1.below (below_drew (Below.refl _ _)))⟩)
    have f7 : (r == 34) = false := beq_eq_false_iff_ne.2 h6
    cases hres : resR r
    · obtain ⟨yq, hyq⟩ : ∃ o, wordS s (s.size + 1) (backS y) = o := ⟨_, rfl⟩
      have HE : Aside0 (scanF s (s.size + 1) x = (.tok 9, yq)) := ⟨by rw [hw]; unfold scan1; simp only [← hr, if_neg h1, if_neg h2, if_neg h3, if_neg h4, if_neg h5, if_neg h6, hres, if_true, ← hy, hyq]⟩
      have HY9 := Aside0.mk hyq
      have HRES := Aside0.mk hres
      have h0 := hrr.1
      have h01 := hrr.2
      clear hy hr hg hw hm h1 h2 h3 h4 h5 h6 hrr hres hyq
      have HT := Aside0.mk HR.out.out
      clear HR
      go_wp2_with fail
      refine (isReserved_calls r _ h0 h01 HT.out.lx.tb.tbl).mono ?_
      rintro e W0 ⟨rfl, hb⟩
      rw [HRES.out]
      have HT0 := Aside0.mk (HT.out.below hb)
      clear hb
      go_wp2_with fail
      refine (rewind_calls _ b T pre post s .nilIface y HT0.out.lx.lex hg2.out.ok).mono ?_
      rintro e W1 ⟨rfl, hO⟩
      have HT1 := Aside0.mk (HT0.out.out hO)
      clear hO
      go_wp2_with fail
      refine (scanUnquoted_calls _ b T pre post s .nilIface (backS y) yq HY9.out HT1.out.lx HGB.out).mono ?_
      rintro e W2 ⟨hE, hO⟩
      have HT2 := Aside0.mk (HT1.out.out hO)
      clear hO HT1 HT0 HT
      obtain rfl := hE
      unfold tokV
      unfold resS at HT2
      have c1 := HT2.out.lx.lex.c1
      obtain ⟨a1, a2, a3, a4⟩ := HT2.out.facts
      have t0 := a1 0
      have t1 := a1 1
      have t2 := a1 2
      have t3 := a1 3
      have t4 := a1 4
      have t5 := a1 5
      have z0 := a3 0
      have z1 := a3 1
      have z2 := a3 2
      have z3 := a3 3
      have z4 := a3 4
      have z5 := a3 5
      simp only [List.getElem?_toArray, List.getElem?_cons_zero, List.getElem?_cons_succ] at t0 t1 t2 t3 t4 t5 z0 z1 z2 z3 z4 z5
      clear a1 a3
      have n1 : ¬ b = w.heap.size := by have := HT2.out.hb; omega
      have n2 : ¬ w.heap.size = b := by omega
      have n3 : ¬ b = w.heap.size + 1 := by have := HT2.out.hb; omega
      have n4 : ¬ w.heap.size + 1 = b := by omega
      have f1 := HT2.out.lx.lex.free (pre.length + 1)
      go_wp2_with fail
      have HT3 := Aside0.mk ((HT2.out.put rfl (.int .i64 9) (.string (s.extract yq.st.toNat yq.p.toNat)) (.int .i64 yq.st) (.int .i64 yq.p) (.int .i64 yq.cl) (.int .i64 yq.cs)).setErr .nilIface)
      generalize (((((((W2.setCell ⟨w.heap.size + 1, 0, none⟩ (.int .i64 9)).setCell ⟨w.heap.size + 1, 1, none⟩ (.string (s.extract yq.st.toNat yq.p.toNat))).setCell ⟨w.heap.size + 1, 2, none⟩ (.int .i64 yq.st)).setCell ⟨w.heap.size + 1, 3, none⟩ (.int .i64 yq.p)).setCell ⟨w.heap.size + 1, 4, none⟩ (.int .i64 yq.cl)).setCell ⟨w.heap.size + 1, 5, none⟩ (.int .i64 yq.cs)).setCell ⟨b, pre.length + 1, none⟩ .nilIface) = W3 at HT3 ⊢
      clear c1 t0 t1 t2 t3 t4 t5 z0 z1 z2 z3 z4 z5 a2 a4 n1 n2 n3 n4 f1
      have c1 := HT3.out.lx.lex.c1
      obtain ⟨a1, a2, a3, a4⟩ := HT3.out.facts
      have t0 := a1 0
      have t1 := a1 1
      have t2 := a1 2
      have t3 := a1 3
      have t4 := a1 4
      have t5 := a1 5
      have z0 := a3 0
      have z1 := a3 1
      have z2 := a3 2
      have z3 := a3 3
      have z4 := a3 4
      have z5 := a3 5
      simp only [List.getElem?_toArray, List.getElem?_cons_zero, List.getElem?_cons_succ] at t0 t1 t2 t3 t4 t5 z0 z1 z2 z3 z4 z5
      clear a1 a3
      have n1 : ¬ b = w.heap.size := by have := HT3.out.hb; omega
      have n2 : ¬ w.heap.size = b := by omega
      have n3 : ¬ b = w.heap.size + 1 := by have := HT3.out.hb; omega
      have n4 : ¬ w.heap.size + 1 = b := by omega
      go_wp2_with fail
      go_region_held3 (fun W => W.cell? ⟨w.heap.size + 1, 0, none⟩ = some (.int .i64 9) ∧ W.cell? ⟨w.heap.size + 1, 1, none⟩ = some (.string (s.extract yq.st.toNat yq.p.toNat)) ∧ W.cell? ⟨w.heap.size + 1, 2, none⟩ = some (.int .i64 yq.st) ∧ W.cell? ⟨w.heap.size + 1, 3, none⟩ = some (.int .i64 yq.p) ∧ W.cell? ⟨w.heap.size + 1, 4, none⟩ = some (.int .i64 yq.cl) ∧ W.cell? ⟨w.heap.size + 1, 5, none⟩ = some (.int .i64 yq.cs) ∧ W.cell? ⟨b, pre.length + 1, none⟩ = some .nilIface) (first | go_keep) (first | fail)
      go_wp2
      have HD := Aside0.mk (HT3.out.fin (.int .i64 9) (.string (s.extract yq.st.toNat yq.p.toNat)) (.int .i64 yq.st) (.int .i64 yq.p) (.int .i64 yq.cl) (.int .i64 yq.cs))
      generalize ((((((W3.setCell ⟨w.heap.size, 0, none⟩ (.int .i64 9)).setCell ⟨w.heap.size, 1, none⟩ (.string (s.extract yq.st.toNat yq.p.toNat))).setCell ⟨w.heap.size, 2, none⟩ (.int .i64 yq.st)).setCell ⟨w.heap.size, 3, none⟩ (.int .i64 yq.p)).setCell ⟨w.heap.size, 4, none⟩ (.int .i64 yq.cl)).setCell ⟨w.heap.size, 5, none⟩ (.int .i64 yq.cs)) = W6 at HD ⊢
      obtain ⟨hc8, _⟩ := cells_in HD.out.2
      have r0 := hc8 0
      have r1 := hc8 1
      have r2 := hc8 2
      have r3 := hc8 3
      have r4 := hc8 4
      have r5 := hc8 5
      simp only [List.getElem?_toArray, List.getElem?_cons_zero, List.getElem?_cons_succ] at r0 r1 r2 r3 r4 r5
      exact bodyPost_ret (v := .tuple #[.agg #[.int .i64 9, .string (s.extract yq.st.toNat yq.p.toNat), .int .i64 yq.st, .int .i64 yq.p, .int .i64 yq.cl, .int .i64 yq.cs], .nilIface]) (by simp [results, Tryz.results109, go_sem, r0, r1, r2, r3, r4, r5]) rfl (by rw [HE.out]; exact ⟨rfl, (HD.out.1.below (below_drew (Below.refl _ _)))⟩)
    · have HRES := Aside0.mk hres
      have h0 := hrr.1
      have h01 := hrr.2
      cases hsp : Lib.isSpaceZ r
      · have HE : Aside0 (scanF s (s.size + 1) x = (.bad, y)) := ⟨by rw [hw]; unfold scan1; simp only [← hr, if_neg h1, if_neg h2, if_neg h3, if_neg h4, if_neg h5, if_neg h6, hres, hsp, Bool.false_eq_true, Bool.true_eq_false, if_false, ← hy]⟩
        have HSP := Aside0.mk hsp
        clear hy hr hg hw hm h1 h2 h3 h4 h5 h6 hrr hres hsp
        have HT := Aside0.mk HR.out.out
        clear HR
        go_wp2_with fail
        refine (isReserved_calls r _ h0 h01 HT.out.lx.tb.tbl).mono ?_
        rintro e W0 ⟨rfl, hb⟩
        rw [HRES.out]
        replace HT := Aside0.mk (HT.out.below hb)
        clear hb
        go_wp2_with fail
        refine (Tryz.unicode_IsSpace_any r _ h0 h01 HT.out.lx.tb.tbl.2).mono ?_
        rintro e wr ⟨rfl, hb⟩
        rw [HSP.out]
        replace HT := Aside0.mk (HT.out.below hb)
        clear hb
        have c0 := HT.out.lx.lex.c0
        have c1 := HT.out.lx.lex.c1
        have f1 := HT.out.lx.lex.free (pre.length + 1)
        have HT0 : Aside0 (ScT w wr.drew b T pre post s .nilIface y #[.int .i64 0, .string ⟨#[]⟩, .int .i64 0, .int .i64 0, .int .i64 0, .int .i64 0]) := ⟨HT.out.below (below_drew (Below.refl _ _))⟩
        go_wp2_with fail
        go_region_held3 (fun W => W.cell? ⟨b, pre.length, none⟩ = some (.string s) ∧ W.frozen? ⟨b, pre.length + 1, none⟩ = false ∧ Aside0 (∃ ev, ScT w W b T pre post s ev y #[.int .i64 0, .string ⟨#[]⟩, .int .i64 0, .int .i64 0, .int .i64 0, .int .i64 0])) (first | (with_reducible exact ⟨HT0.out.lx.lex.c0, HT0.out.lx.lex.free _, ⟨_, HT0.out⟩⟩) | (with_reducible exact ⟨HT1.out.lx.lex.c0, HT1.out.lx.lex.free _, ⟨_, HT1.out⟩⟩) | (with_reducible exact ⟨(HT1.out.setErr _).lx.lex.c0, (HT1.out.setErr _).lx.lex.free _, ⟨_, HT1.out.setErr _⟩⟩)) (first | (go_at_call 140; (with_reducible refine (posT_calls w wr.drew b T pre post s .nilIface y #[.int .i64 0, .string ⟨#[]⟩, .int .i64 0, .int .i64 0, .int .i64 0, .int .i64 0] HT0.out).mono ?_); rintro e w4 ⟨rfl, HT1⟩; unfold posV; have m1 := HT1.out.lx.lex.c1))
        have HT3 := Aside0.mk (HT1.out.setErr (.iface 202 (.agg #[.int .i64 y.st, .int .i64 y.p, .int .i64 y.cl, .int .i64 y.cs, .string s])))
        generalize (w4.setCell ⟨b, pre.length + 1, none⟩ (.iface 202 (.agg #[.int .i64 y.st, .int .i64 y.p, .int .i64 y.cl, .int .i64 y.cs, .string s]))) = W3 at HT3 ⊢
        clear c0 c1 f1
        have c1 := HT3.out.lx.lex.c1
        obtain ⟨a1, a2, a3, a4⟩ := HT3.out.facts
        have t0 := a1 0
        have t1 := a1 1
        have t2 := a1 2
        have t3 := a1 3
        have t4 := a1 4
        have t5 := a1 5
        have z0 := a3 0
        have z1 := a3 1
        have z2 := a3 2
        have z3 := a3 3
        have z4 := a3 4
        have z5 := a3 5
        simp only [List.getElem?_toArray, List.getElem?_cons_zero, List.getElem?_cons_succ] at t0 t1 t2 t3 t4 t5 z0 z1 z2 z3 z4 z5
        clear a1 a3
        have n1 : ¬ b = w.heap.size := by have := HT3.out.hb; omega
        have n2 : ¬ w.heap.size = b := by omega
        have n3 : ¬ b = w.heap.size + 1 := by have := HT3.out.hb; omega
        have n4 : ¬ w.heap.size + 1 = b := by omega
        go_wp2_with fail
        go_region_held3 (fun W => W.cell? ⟨w.heap.size + 1, 0, none⟩ = some (.int .i64 0) ∧ W.cell? ⟨w.heap.size + 1, 1, none⟩ = some (.string ⟨#[]⟩) ∧ W.cell? ⟨w.heap.size + 1, 2, none⟩ = some (.int .i64 0) ∧ W.cell? ⟨w.heap.size + 1, 3, none⟩ = some (.int .i64 0) ∧ W.cell? ⟨w.heap.size + 1, 4, none⟩ = some (.int .i64 0) ∧ W.cell? ⟨w.heap.size + 1, 5, none⟩ = some (.int .i64 0) ∧ W.cell? ⟨b, pre.length + 1, none⟩ = some (.iface 202 (.agg #[.int .i64 y.st, .int .i64 y.p, .int .i64 y.cl, .int .i64 y.cs, .string s]))) (first | go_keep) (first | fail)
        go_wp2
        have HD := Aside0.mk (HT3.out.fin (.int .i64 0) (.string ⟨#[]⟩) (.int .i64 0) (.int .i64 0) (.int .i64 0) (.int .i64 0))
        generalize ((((((W3.setCell ⟨w.heap.size, 0, none⟩ (.int .i64 0)).setCell ⟨w.heap.size, 1, none⟩ (.string ⟨#[]⟩)).setCell ⟨w.heap.size, 2, none⟩ (.int .i64 0)).setCell ⟨w.heap.size, 3, none⟩ (.int .i64 0)).setCell ⟨w.heap.size, 4, none⟩ (.int .i64 0)).setCell ⟨w.heap.size, 5, none⟩ (.int .i64 0)) = W6 at HD ⊢
        obtain ⟨hc8, _⟩ := cells_in HD.out.2
        have r0 := hc8 0
        have r1 := hc8 1
        have r2 := hc8 2
        have r3 := hc8 3
        have r4 := hc8 4
        have r5 := hc8 5
        simp only [List.getElem?_toArray, List.getElem?_cons_zero, List.getElem?_cons_succ] at r0 r1 r2 r3 r4 r5
        exact bodyPost_ret (v := .tuple #[.agg #[.int .i64 0, .string ⟨#[]⟩, .int .i64 0, .int .i64 0, .int .i64 0, .int .i64 0], (.iface 202 (.agg #[.int .i64 y.st, .int .i64 y.p, .int .i64 y.cl, .int .i64 y.cs, .string s]))]) (by simp [results, Tryz.results109, go_sem, r0, r1, r2, r3, r4, r5]) rfl (by rw [HE.out]; exact ⟨_, ⟨_, _, rfl, Or.inr (Or.inr rfl)⟩, rfl, (HD.out.1.below (below_drew (Below.refl _ _)))⟩)
      · have HWS : Aside0 (scanF s (s.size + 1) x = scanF s k (skipS y)) := ⟨by rw [hw]; unfold scan1; simp only [← hr, if_neg h1, if_neg h2, if_neg h3, if_neg h4, if_neg h5, if_neg h6, hres, hsp, Bool.true_eq_false, if_false, if_true, ← hy]⟩
        have hk2 : s.size - y.p.toNat + 1 ≤ k := by
          have hon := (nextS_on hg (by rw [← hr]; exact h1)).1
          rw [← hy] at hon
          have := hg2.out.p1
          have := hg.s0; have := hg.s1
          omega
        have HK2 := Aside0.mk hk2
        have HM := Aside0.mk (word_less hg hy hr h1)
        have HM0 := Aside0.mk (wordM_is HR.out.out.lx.lex r)
        have HSP := Aside0.mk hsp
        clear hy hr hg hw hm h1 h2 h3 h4 h5 h6 hrr hres hsp hk2
        have HT := Aside0.mk HR.out.out
        clear HR
        go_wp2_with fail
        refine (isReserved_calls r _ h0 h01 HT.out.lx.tb.tbl).mono ?_
        rintro e W0 ⟨rfl, hb⟩
        rw [HRES.out]
        replace HT := Aside0.mk (HT.out.below hb)
        clear hb
        go_wp2_with fail
        refine (Tryz.unicode_IsSpace_any r _ h0 h01 HT.out.lx.tb.tbl.2).mono ?_
        rintro e W1 ⟨rfl, hb⟩
        rw [HSP.out]
        replace HT := Aside0.mk (HT.out.below hb)
        clear hb
        go_wp2_with fail
        refine (skip_calls _ b T pre post s .nilIface y HT.out.lx.lex).mono ?_
        rintro e W2 ⟨rfl, hO⟩
        replace HT := Aside0.mk (HT.out.out hO)
        clear hO
        go_wp2_with fail
        refine (next_calls _ b T pre post s .nilIface (skipS y) HT.out.lx.lex hg2.out.skip.ok HT.out.lx.tb.tbl).mono ?_
        rintro e W3 ⟨rfl, hO⟩
        have HW3 : Aside0 (ScanAt w W3 b T pre post s x (nextS s (skipS y)) (nextR s (skipS y).p)) := ⟨⟨⟨skipS y, k - 1, rfl, rfl, hg2.out.skip, by rw [HWS.out]; congr 1; have := HK2.out; omega, by have := HK2.out; show s.size - y.p.toNat ≤ _; omega⟩, HT.out.out hO⟩⟩
        clear hO HT
        go_wp2_with fail
        go_roundw
        case rel => exact ⟨_, _, rfl, HW3⟩
        case measure =>
          rw [wordM_is HW3.out.out.lx.lex, HM0.out]
          have e : (nextS s (skipS y)).p = (nextS s y).p := by
            unfold nextS
            show (if (skipS y).p.toNat < s.size then _ else _ : LSt).p = _
            show (if y.p.toNat < s.size then _ else _ : LSt).p = _
            split <;> rfl
          rw [e]
          exact HM.out
end Go.Proofs.YtnnhehlieakedaaGreatDoor.Q
namespace Go.Proofs.YtnnhehlieakedaaGreatDoor.Q
open Go.RowKit Go.Lib Go.Proofs.YtnnhehlieakedaaGreatDoorW.PrintWords Go.Proofs.YtnnhehlieakedaaGreatDoorW.PrintLast Go.Proofs.YtnnhehlieakedaaGreatDoorW.PrintMore
attribute [local go_sem] max2_int min2_int max_two min_two max_three min_three max_four min_four
set_option maxRecDepth 100000 in
set_option maxHeartbeats 2000000 in
theorem peek1_calls (w : World) (b T : Nat) (pre post : List Value) (s : ByteArray) (err : Value) (x y : LSt) (g0 g1 g2 g3 g4 g5 : Nat) (h : LexAt w b T pre post s err y)
    (k1 : w.cell? ⟨g1, 0, none⟩ = some (.pointer (some ⟨b, pre.length, none⟩))) (k0 : w.cell? ⟨g0, 0, none⟩ = some (.int .i64 x.st)) (k2 : w.cell? ⟨g2, 0, none⟩ = some (.int .i64 x.p)) (k3 : w.cell? ⟨g3, 0, none⟩ = some (.int .i64 x.wd)) (k4 : w.cell? ⟨g4, 0, none⟩ = some (.int .i64 x.cl)) (k5 : w.cell? ⟨g5, 0, none⟩ = some (.int .i64 x.cs))
    (n0 : ¬ b = g0) (n1 : ¬ b = g1) (n2 : ¬ b = g2) (n3 : ¬ b = g3) (n4 : ¬ b = g4) (n5 : ¬ b = g5) :
    CallsD Tryz.prog 141 #[.pointer (some ⟨g0, 0, none⟩), .pointer (some ⟨g1, 0, none⟩), .pointer (some ⟨g2, 0, none⟩), .pointer (some ⟨g3, 0, none⟩), .pointer (some ⟨g4, 0, none⟩), .pointer (some ⟨g5, 0, none⟩)] .returning w fun e u' w' => u' = .returning ∧ e = .returned (.tuple #[]) ∧ LexOut w w' b T pre post s err x := by
  have HL := Aside0.mk h
  have c2 := h.c2
  have c3 := h.c3
  have c4 := h.c4
  have c5 := h.c5
  have c6 := h.c6
  have f2 := h.free (pre.length + 2)
  have f3 := h.free (pre.length + 3)
  have f4 := h.free (pre.length + 4)
  have f5 := h.free (pre.length + 5)
  have f6 := h.free (pre.length + 6)
  clear h
  go_enter_d Tryz.func141, Tryz.ntmps141
  go_wp2
  go_end0
  exact ⟨rfl, ((((HL.out.set2 x.st).set3 x.p).set4 x.wd).set5 x.cl).set6 x.cs, grown_set (grown_set (grown_set (grown_set (grown_set (World.grownBy.refl _ _) _ _) _ _) _ _) _ _) _ _⟩
theorem pk_heap (w : World) (o0 : Obj) (o1 : Obj) (o2 : Obj) (o3 : Obj) (o4 : Obj) (o5 : Obj) (o6 : Obj) : (((((((w.alloc o0).alloc o1).alloc o2).alloc o3).alloc o4).alloc o5).alloc o6).heap[w.heap.size]? = some o0 ∧ (((((((w.alloc o0).alloc o1).alloc o2).alloc o3).alloc o4).alloc o5).alloc o6).heap[w.heap.size + 1]? = some o1 ∧ (((((((w.alloc o0).alloc o1).alloc o2).alloc o3).alloc o4).alloc o5).alloc o6).heap[w.heap.size + 1 + 1]? = some o2 ∧ (((((((w.alloc o0).alloc o1).alloc o2).alloc o3).alloc o4).alloc o5).alloc o6).heap[w.heap.size + 1 + 1 + 1]? = some o3 ∧ (((((((w.alloc o0).alloc o1).alloc o2).alloc o3).alloc o4).alloc o5).alloc o6).heap[w.heap.size + 1 + 1 + 1 + 1]? = some o4 ∧ (((((((w.alloc o0).alloc o1).alloc o2).alloc o3).alloc o4).alloc o5).alloc o6).heap[w.heap.size + 1 + 1 + 1 + 1 + 1]? = some o5 ∧ (((((((w.alloc o0).alloc o1).alloc o2).alloc o3).alloc o4).alloc o5).alloc o6).heap[w.heap.size + 1 + 1 + 1 + 1 + 1 + 1]? = some o6 := by
  refine ⟨?_, ?_, ?_, ?_, ?_, ?_, ?_⟩
  all_goals
    simp only [World.alloc, Array.getElem?_push, Array.size_push]
    simp
    try (repeat rw [if_neg (by omega)])
theorem pk_grown (w w1 : World) (b : Nat) (o0 : Obj) (o1 : Obj) (o2 : Obj) (o3 : Obj) (o4 : Obj) (o5 : Obj) (o6 : Obj) (h : (((((((w.alloc o0).alloc o1).alloc o2).alloc o3).alloc o4).alloc o5).alloc o6).grownBy w1 (some b)) : w.grownBy w1 (some b) :=
  (((((((World.grownBy_alloc w o0 (some b)).trans (World.grownBy_alloc _ o1 (some b))).trans (World.grownBy_alloc _ o2 (some b))).trans (World.grownBy_alloc _ o3 (some b))).trans (World.grownBy_alloc _ o4 (some b))).trans (World.grownBy_alloc _ o5 (some b))).trans (World.grownBy_alloc _ o6 (some b))).trans h
/-- What peek leaves and hands back. -/
def PkP (w w' : World) (b T : Nat) (pre post : List Value) (s : ByteArray) (c : Sc) (y x : LSt) (e : Ending) : Prop := match c with
  | .eof => e = .returned (.tuple #[tok0, .nilIface]) ∧ LexOut w w' b T pre post s .nilIface x
  | .bad => ∃ ev, ErrV ev ∧ e = .returned (.tuple #[tok0, ev]) ∧ LexOut w w' b T pre post s ev x
  | .tok k => e = .returned (.tuple #[tokV k (s.extract y.st.toNat y.p.toNat) y, .nilIface]) ∧ LexOut w w' b T pre post s .nilIface x
set_option maxRecDepth 100000 in
set_option maxHeartbeats 4000000 in
theorem peek_calls (w : World) (b T : Nat) (pre post : List Value) (s : ByteArray) (x : LSt) (h : LX w b T pre post s .nilIface x) (hk : LGd s x) (c : Sc) (y : LSt) (hc : scanF s (s.size + 1) x = (c, y)) :
    Calls Tryz.prog 113 #[.pointer (some ⟨b, pre.length, none⟩)] w fun e w' => PkP w w' b T pre post s c y x e := by
  have HL := Aside0.mk h
  have HK := Aside0.mk hk
  have HC := Aside0.mk hc
  have c2 := h.lex.c2
  have c3 := h.lex.c3
  have c4 := h.lex.c4
  have c5 := h.lex.c5
  have c6 := h.lex.c6
  have hlt := h.lex.lt
  have n0 : ¬ b = w.heap.size := by omega
  have n1 : ¬ b = w.heap.size + 1 := by omega
  have n2 : ¬ b = w.heap.size + 1 + 1 := by omega
  have m2 : ¬ b = w.heap.size + 2 := by omega
  have q2 : ¬ w.heap.size + 2 = b := by omega
  have l2 : b < w.heap.size + 1 + 1 := by omega
  have k2 : b < w.heap.size + 2 := by omega
  have n3 : ¬ b = w.heap.size + 1 + 1 + 1 := by omega
  have m3 : ¬ b = w.heap.size + 3 := by omega
  have q3 : ¬ w.heap.size + 3 = b := by omega
  have l3 : b < w.heap.size + 1 + 1 + 1 := by omega
  have k3 : b < w.heap.size + 3 := by omega
  have n4 : ¬ b = w.heap.size + 1 + 1 + 1 + 1 := by omega
  have m4 : ¬ b = w.heap.size + 4 := by omega
  have q4 : ¬ w.heap.size + 4 = b := by omega
  have l4 : b < w.heap.size + 1 + 1 + 1 + 1 := by omega
  have k4 : b < w.heap.size + 4 := by omega
  have n5 : ¬ b = w.heap.size + 1 + 1 + 1 + 1 + 1 := by omega
  have m5 : ¬ b = w.heap.size + 5 := by omega
  have q5 : ¬ w.heap.size + 5 = b := by omega
  have l5 : b < w.heap.size + 1 + 1 + 1 + 1 + 1 := by omega
  have k5 : b < w.heap.size + 5 := by omega
  have n6 : ¬ b = w.heap.size + 1 + 1 + 1 + 1 + 1 + 1 := by omega
  have m6 : ¬ b = w.heap.size + 6 := by omega
  have q6 : ¬ w.heap.size + 6 = b := by omega
  have l6 : b < w.heap.size + 1 + 1 + 1 + 1 + 1 + 1 := by omega
  have k6 : b < w.heap.size + 6 := by omega
  clear h hk hc
  have hmf : ∀ (fn : Fn) (first cap : Array Value) (w : World), (Instr.makeFunc fn first cap).run Tryz.prog w = .ok (.func fn first cap) w := fun _ _ _ _ => rfl
  go_enter_defers Tryz.func113, Tryz.ntmps113
  go_wp2_with fail
  -- GEN
  refine (scanT_calls _ b T pre post s x (((((((HL.out.alloc _).alloc _).alloc _).alloc _).alloc _).alloc _).alloc _) HK.out).mono ?_
  rw [HC.out]
  rintro e w1 hP
  cases c with
  | eof =>
    obtain ⟨rfl, hO⟩ := hP
    have HO := Aside0.mk hO
    clear hO
    unfold tok0
    have HB := Aside0.mk (pk_heap w (.cells #[.pointer (some ⟨b, pre.length, none⟩)] 124) (.cells #[.int .i64 0, .string ⟨#[]⟩, .int .i64 0, .int .i64 0, .int .i64 0, .int .i64 0] 169) (.cells #[.int .i64 x.st] 3) (.cells #[.int .i64 x.p] 3) (.cells #[.int .i64 x.wd] 3) (.cells #[.int .i64 x.cl] 3) (.cells #[.int .i64 x.cs] 3))
    have HBK : Aside0 (∀ i ob, (((((((w.alloc (.cells #[.pointer (some ⟨b, pre.length, none⟩)] 124)).alloc (.cells #[.int .i64 0, .string ⟨#[]⟩, .int .i64 0, .int .i64 0, .int .i64 0, .int .i64 0] 169)).alloc (.cells #[.int .i64 x.st] 3)).alloc (.cells #[.int .i64 x.p] 3)).alloc (.cells #[.int .i64 x.wd] 3)).alloc (.cells #[.int .i64 x.cl] 3)).alloc (.cells #[.int .i64 x.cs] 3)).heap[i]? = some ob → ¬ i = b → w1.heap[i]? = some ob) := ⟨fun i ob hi hne => (HO.out.grown.block i (Array.getElem?_eq_some_iff.1 hi).1 (by intro e; injection e with e; omega)).trans hi⟩
    have HR1 := Aside0.mk (HBK.out _ _ HB.out.2.1 (by omega))
    have HG1 := Aside0.mk (HBK.out _ _ HB.out.1 (by omega))
    have HG0 := Aside0.mk (HBK.out _ _ HB.out.2.2.1 (by omega))
    have HG2 := Aside0.mk (HBK.out _ _ HB.out.2.2.2.1 (by omega))
    have HG3 := Aside0.mk (HBK.out _ _ HB.out.2.2.2.2.1 (by omega))
    have HG4 := Aside0.mk (HBK.out _ _ HB.out.2.2.2.2.2.1 (by omega))
    have HG5 := Aside0.mk (HBK.out _ _ HB.out.2.2.2.2.2.2 (by omega))
    obtain ⟨hcz, hfz⟩ := cells_in HR1.out
    have z0 := hcz 0
    have z1 := hcz 1
    have z2 := hcz 2
    have z3 := hcz 3
    have z4 := hcz 4
    have z5 := hcz 5
    simp only [List.getElem?_toArray, List.getElem?_cons_zero, List.getElem?_cons_succ] at z0 z1 z2 z3 z4 z5
    clear hcz
    have HL6 : Aside0 (LexAt ((((((w1.setCell ⟨w.heap.size + 1, 0, none⟩ (.int .i64 0)).setCell ⟨w.heap.size + 1, 1, none⟩ (.string ⟨#[]⟩)).setCell ⟨w.heap.size + 1, 2, none⟩ (.int .i64 0)).setCell ⟨w.heap.size + 1, 3, none⟩ (.int .i64 0)).setCell ⟨w.heap.size + 1, 4, none⟩ (.int .i64 0)).setCell ⟨w.heap.size + 1, 5, none⟩ (.int .i64 0)) b T pre post s .nilIface y) := ⟨(((((HO.out.lex.other n1 0 (.int .i64 0)).other n1 1 (.string ⟨#[]⟩)).other n1 2 (.int .i64 0)).other n1 3 (.int .i64 0)).other n1 4 (.int .i64 0)).other n1 5 (.int .i64 0)⟩
    have H8 := Aside0.mk (old_tok HR1.out (.int .i64 0) (.string ⟨#[]⟩) (.int .i64 0) (.int .i64 0) (.int .i64 0) (.int .i64 0))
    have HKP : Aside0 (∀ i, ¬ i = w.heap.size + 1 → ((((((w1.setCell ⟨w.heap.size + 1, 0, none⟩ (.int .i64 0)).setCell ⟨w.heap.size + 1, 1, none⟩ (.string ⟨#[]⟩)).setCell ⟨w.heap.size + 1, 2, none⟩ (.int .i64 0)).setCell ⟨w.heap.size + 1, 3, none⟩ (.int .i64 0)).setCell ⟨w.heap.size + 1, 4, none⟩ (.int .i64 0)).setCell ⟨w.heap.size + 1, 5, none⟩ (.int .i64 0)).heap[i]? = w1.heap[i]?) := ⟨fun i hi => by rw [Below.heap_setCell _ _ _ _ (by show i ≠ w.heap.size + 1; omega), Below.heap_setCell _ _ _ _ (by show i ≠ w.heap.size + 1; omega), Below.heap_setCell _ _ _ _ (by show i ≠ w.heap.size + 1; omega), Below.heap_setCell _ _ _ _ (by show i ≠ w.heap.size + 1; omega), Below.heap_setCell _ _ _ _ (by show i ≠ w.heap.size + 1; omega), Below.heap_setCell _ _ _ _ (by show i ≠ w.heap.size + 1; omega)]⟩
    have HGR : Aside0 (w.grownBy ((((((w1.setCell ⟨w.heap.size + 1, 0, none⟩ (.int .i64 0)).setCell ⟨w.heap.size + 1, 1, none⟩ (.string ⟨#[]⟩)).setCell ⟨w.heap.size + 1, 2, none⟩ (.int .i64 0)).setCell ⟨w.heap.size + 1, 3, none⟩ (.int .i64 0)).setCell ⟨w.heap.size + 1, 4, none⟩ (.int .i64 0)).setCell ⟨w.heap.size + 1, 5, none⟩ (.int .i64 0)) (some b)) := ⟨grown_new (grown_new (grown_new (grown_new (grown_new (grown_new (pk_grown w w1 b (.cells #[.pointer (some ⟨b, pre.length, none⟩)] 124) (.cells #[.int .i64 0, .string ⟨#[]⟩, .int .i64 0, .int .i64 0, .int .i64 0, .int .i64 0] 169) (.cells #[.int .i64 x.st] 3) (.cells #[.int .i64 x.p] 3) (.cells #[.int .i64 x.wd] 3) (.cells #[.int .i64 x.cl] 3) (.cells #[.int .i64 x.cs] 3) HO.out.grown) (by omega) 0 (.int .i64 0)) (by omega) 1 (.string ⟨#[]⟩)) (by omega) 2 (.int .i64 0)) (by omega) 3 (.int .i64 0)) (by omega) 4 (.int .i64 0)) (by omega) 5 (.int .i64 0)⟩
    clear HB HBK
    go_wp2
    generalize ((((((w1.setCell ⟨w.heap.size + 1, 0, none⟩ (.int .i64 0)).setCell ⟨w.heap.size + 1, 1, none⟩ (.string ⟨#[]⟩)).setCell ⟨w.heap.size + 1, 2, none⟩ (.int .i64 0)).setCell ⟨w.heap.size + 1, 3, none⟩ (.int .i64 0)).setCell ⟨w.heap.size + 1, 4, none⟩ (.int .i64 0)).setCell ⟨w.heap.size + 1, 5, none⟩ (.int .i64 0)) = W6 at HL6 H8 HKP HGR ⊢
    refine leaves_cons (f := 141) (args := #[.pointer (some ⟨w.heap.size + 1 + 1, 0, none⟩), .pointer (some ⟨w.heap.size, 0, none⟩), .pointer (some ⟨w.heap.size + 1 + 1 + 1, 0, none⟩), .pointer (some ⟨w.heap.size + 1 + 1 + 1 + 1, 0, none⟩), .pointer (some ⟨w.heap.size + 1 + 1 + 1 + 1 + 1, 0, none⟩), .pointer (some ⟨w.heap.size + 1 + 1 + 1 + 1 + 1 + 1, 0, none⟩)]) (by simp) (by simp [go_sem]) ?_
    refine (peek1_calls W6 b T pre post s .nilIface x y (w.heap.size + 1 + 1) (w.heap.size) (w.heap.size + 1 + 1 + 1) (w.heap.size + 1 + 1 + 1 + 1) (w.heap.size + 1 + 1 + 1 + 1 + 1) (w.heap.size + 1 + 1 + 1 + 1 + 1 + 1) HL6.out ((Lib.cell_of_heap (((HKP.out _ (by omega))).trans HG1.out) 0).trans rfl) ((Lib.cell_of_heap (((HKP.out _ (by omega))).trans HG0.out) 0).trans rfl) ((Lib.cell_of_heap (((HKP.out _ (by omega))).trans HG2.out) 0).trans rfl) ((Lib.cell_of_heap (((HKP.out _ (by omega))).trans HG3.out) 0).trans rfl) ((Lib.cell_of_heap (((HKP.out _ (by omega))).trans HG4.out) 0).trans rfl) ((Lib.cell_of_heap (((HKP.out _ (by omega))).trans HG5.out) 0).trans rfl) (by omega) (by omega) (by omega) (by omega) (by omega) (by omega)).mono ?_
    rintro e u' w2 ⟨rfl, rfl, hO2⟩
    have HRR := (hO2.grown.block _ (Array.getElem?_eq_some_iff.1 H8.out).1 (by intro e; injection e with e; omega)).trans H8.out
    obtain ⟨hc8, _⟩ := cells_in HRR
    have r0 := hc8 0
    have r1 := hc8 1
    have r2 := hc8 2
    have r3 := hc8 3
    have r4 := hc8 4
    have r5 := hc8 5
    simp only [List.getElem?_toArray, List.getElem?_cons_zero, List.getElem?_cons_succ] at r0 r1 r2 r3 r4 r5
    exact ⟨.tuple #[.agg #[.int .i64 0, .string ⟨#[]⟩, .int .i64 0, .int .i64 0, .int .i64 0, .int .i64 0], .nilIface], by simp [results, Tryz.results113, go_sem, r0, r1, r2, r3, r4, r5], ⟨rfl, ⟨hO2.lex, HGR.out.trans hO2.grown⟩⟩⟩
  | bad =>
    obtain ⟨ev, hev, rfl, hO⟩ := hP
    have HO := Aside0.mk hO
    clear hO
    unfold tok0
    have HB := Aside0.mk (pk_heap w (.cells #[.pointer (some ⟨b, pre.length, none⟩)] 124) (.cells #[.int .i64 0, .string ⟨#[]⟩, .int .i64 0, .int .i64 0, .int .i64 0, .int .i64 0] 169) (.cells #[.int .i64 x.st] 3) (.cells #[.int .i64 x.p] 3) (.cells #[.int .i64 x.wd] 3) (.cells #[.int .i64 x.cl] 3) (.cells #[.int .i64 x.cs] 3))
    have HBK : Aside0 (∀ i ob, (((((((w.alloc (.cells #[.pointer (some ⟨b, pre.length, none⟩)] 124)).alloc (.cells #[.int .i64 0, .string ⟨#[]⟩, .int .i64 0, .int .i64 0, .int .i64 0, .int .i64 0] 169)).alloc (.cells #[.int .i64 x.st] 3)).alloc (.cells #[.int .i64 x.p] 3)).alloc (.cells #[.int .i64 x.wd] 3)).alloc (.cells #[.int .i64 x.cl] 3)).alloc (.cells #[.int .i64 x.cs] 3)).heap[i]? = some ob → ¬ i = b → w1.heap[i]? = some ob) := ⟨fun i ob hi hne => (HO.out.grown.block i (Array.getElem?_eq_some_iff.1 hi).1 (by intro e; injection e with e; omega)).trans hi⟩
    have HR1 := Aside0.mk (HBK.out _ _ HB.out.2.1 (by omega))
    have HG1 := Aside0.mk (HBK.out _ _ HB.out.1 (by omega))
    have HG0 := Aside0.mk (HBK.out _ _ HB.out.2.2.1 (by omega))
    have HG2 := Aside0.mk (HBK.out _ _ HB.out.2.2.2.1 (by omega))
    have HG3 := Aside0.mk (HBK.out _ _ HB.out.2.2.2.2.1 (by omega))
    have HG4 := Aside0.mk (HBK.out _ _ HB.out.2.2.2.2.2.1 (by omega))
    have HG5 := Aside0.mk (HBK.out _ _ HB.out.2.2.2.2.2.2 (by omega))
    obtain ⟨hcz, hfz⟩ := cells_in HR1.out
    have z0 := hcz 0
    have z1 := hcz 1
    have z2 := hcz 2
    have z3 := hcz 3
    have z4 := hcz 4
    have z5 := hcz 5
    simp only [List.getElem?_toArray, List.getElem?_cons_zero, List.getElem?_cons_succ] at z0 z1 z2 z3 z4 z5
    clear hcz
    have HL6 : Aside0 (LexAt ((((((w1.setCell ⟨w.heap.size + 1, 0, none⟩ (.int .i64 0)).setCell ⟨w.heap.size + 1, 1, none⟩ (.string ⟨#[]⟩)).setCell ⟨w.heap.size + 1, 2, none⟩ (.int .i64 0)).setCell ⟨w.heap.size + 1, 3, none⟩ (.int .i64 0)).setCell ⟨w.heap.size + 1, 4, none⟩ (.int .i64 0)).setCell ⟨w.heap.size + 1, 5, none⟩ (.int .i64 0)) b T pre post s ev y) := ⟨(((((HO.out.lex.other n1 0 (.int .i64 0)).other n1 1 (.string ⟨#[]⟩)).other n1 2 (.int .i64 0)).other n1 3 (.int .i64 0)).other n1 4 (.int .i64 0)).other n1 5 (.int .i64 0)⟩
    have H8 := Aside0.mk (old_tok HR1.out (.int .i64 0) (.string ⟨#[]⟩) (.int .i64 0) (.int .i64 0) (.int .i64 0) (.int .i64 0))
    have HKP : Aside0 (∀ i, ¬ i = w.heap.size + 1 → ((((((w1.setCell ⟨w.heap.size + 1, 0, none⟩ (.int .i64 0)).setCell ⟨w.heap.size + 1, 1, none⟩ (.string ⟨#[]⟩)).setCell ⟨w.heap.size + 1, 2, none⟩ (.int .i64 0)).setCell ⟨w.heap.size + 1, 3, none⟩ (.int .i64 0)).setCell ⟨w.heap.size + 1, 4, none⟩ (.int .i64 0)).setCell ⟨w.heap.size + 1, 5, none⟩ (.int .i64 0)).heap[i]? = w1.heap[i]?) := ⟨fun i hi => by rw [Below.heap_setCell _ _ _ _ (by show i ≠ w.heap.size + 1; omega), Below.heap_setCell _ _ _ _ (by show i ≠ w.heap.size + 1; omega), Below.heap_setCell _ _ _ _ (by show i ≠ w.heap.size + 1; omega), Below.heap_setCell _ _ _ _ (by show i ≠ w.heap.size + 1; omega), Below.heap_setCell _ _ _ _ (by show i ≠ w.heap.size + 1; omega), Below.heap_setCell _ _ _ _ (by show i ≠ w.heap.size + 1; omega)]⟩
    have HGR : Aside0 (w.grownBy ((((((w1.setCell ⟨w.heap.size + 1, 0, none⟩ (.int .i64 0)).setCell ⟨w.heap.size + 1, 1, none⟩ (.string ⟨#[]⟩)).setCell ⟨w.heap.size + 1, 2, none⟩ (.int .i64 0)).setCell ⟨w.heap.size + 1, 3, none⟩ (.int .i64 0)).setCell ⟨w.heap.size + 1, 4, none⟩ (.int .i64 0)).setCell ⟨w.heap.size + 1, 5, none⟩ (.int .i64 0)) (some b)) := ⟨grown_new (grown_new (grown_new (grown_new (grown_new (grown_new (pk_grown w w1 b (.cells #[.pointer (some ⟨b, pre.length, none⟩)] 124) (.cells #[.int .i64 0, .string ⟨#[]⟩, .int .i64 0, .int .i64 0, .int .i64 0, .int .i64 0] 169) (.cells #[.int .i64 x.st] 3) (.cells #[.int .i64 x.p] 3) (.cells #[.int .i64 x.wd] 3) (.cells #[.int .i64 x.cl] 3) (.cells #[.int .i64 x.cs] 3) HO.out.grown) (by omega) 0 (.int .i64 0)) (by omega) 1 (.string ⟨#[]⟩)) (by omega) 2 (.int .i64 0)) (by omega) 3 (.int .i64 0)) (by omega) 4 (.int .i64 0)) (by omega) 5 (.int .i64 0)⟩
    clear HB HBK
    go_wp2
    generalize ((((((w1.setCell ⟨w.heap.size + 1, 0, none⟩ (.int .i64 0)).setCell ⟨w.heap.size + 1, 1, none⟩ (.string ⟨#[]⟩)).setCell ⟨w.heap.size + 1, 2, none⟩ (.int .i64 0)).setCell ⟨w.heap.size + 1, 3, none⟩ (.int .i64 0)).setCell ⟨w.heap.size + 1, 4, none⟩ (.int .i64 0)).setCell ⟨w.heap.size + 1, 5, none⟩ (.int .i64 0)) = W6 at HL6 H8 HKP HGR ⊢
    refine leaves_cons (f := 141) (args := #[.pointer (some ⟨w.heap.size + 1 + 1, 0, none⟩), .pointer (some ⟨w.heap.size, 0, none⟩), .pointer (some ⟨w.heap.size + 1 + 1 + 1, 0, none⟩), .pointer (some ⟨w.heap.size + 1 + 1 + 1 + 1, 0, none⟩), .pointer (some ⟨w.heap.size + 1 + 1 + 1 + 1 + 1, 0, none⟩), .pointer (some ⟨w.heap.size + 1 + 1 + 1 + 1 + 1 + 1, 0, none⟩)]) (by simp) (by simp [go_sem]) ?_
    refine (peek1_calls W6 b T pre post s ev x y (w.heap.size + 1 + 1) (w.heap.size) (w.heap.size + 1 + 1 + 1) (w.heap.size + 1 + 1 + 1 + 1) (w.heap.size + 1 + 1 + 1 + 1 + 1) (w.heap.size + 1 + 1 + 1 + 1 + 1 + 1) HL6.out ((Lib.cell_of_heap (((HKP.out _ (by omega))).trans HG1.out) 0).trans rfl) ((Lib.cell_of_heap (((HKP.out _ (by omega))).trans HG0.out) 0).trans rfl) ((Lib.cell_of_heap (((HKP.out _ (by omega))).trans HG2.out) 0).trans rfl) ((Lib.cell_of_heap (((HKP.out _ (by omega))).trans HG3.out) 0).trans rfl) ((Lib.cell_of_heap (((HKP.out _ (by omega))).trans HG4.out) 0).trans rfl) ((Lib.cell_of_heap (((HKP.out _ (by omega))).trans HG5.out) 0).trans rfl) (by omega) (by omega) (by omega) (by omega) (by omega) (by omega)).mono ?_
    rintro e u' w2 ⟨rfl, rfl, hO2⟩
    have HRR := (hO2.grown.block _ (Array.getElem?_eq_some_iff.1 H8.out).1 (by intro e; injection e with e; omega)).trans H8.out
    obtain ⟨hc8, _⟩ := cells_in HRR
    have r0 := hc8 0
    have r1 := hc8 1
    have r2 := hc8 2
    have r3 := hc8 3
    have r4 := hc8 4
    have r5 := hc8 5
    simp only [List.getElem?_toArray, List.getElem?_cons_zero, List.getElem?_cons_succ] at r0 r1 r2 r3 r4 r5
    exact ⟨.tuple #[.agg #[.int .i64 0, .string ⟨#[]⟩, .int .i64 0, .int .i64 0, .int .i64 0, .int .i64 0], ev], by simp [results, Tryz.results113, go_sem, r0, r1, r2, r3, r4, r5], ⟨ev, hev, rfl, ⟨hO2.lex, HGR.out.trans hO2.grown⟩⟩⟩
  | tok k =>
    obtain ⟨rfl, hO⟩ := hP
    have HO := Aside0.mk hO
    clear hO
    unfold tokV
    have HB := Aside0.mk (pk_heap w (.cells #[.pointer (some ⟨b, pre.length, none⟩)] 124) (.cells #[.int .i64 0, .string ⟨#[]⟩, .int .i64 0, .int .i64 0, .int .i64 0, .int .i64 0] 169) (.cells #[.int .i64 x.st] 3) (.cells #[.int .i64 x.p] 3) (.cells #[.int .i64 x.wd] 3) (.cells #[.int .i64 x.cl] 3) (.cells #[.int .i64 x.cs] 3))
    have HBK : Aside0 (∀ i ob, (((((((w.alloc (.cells #[.pointer (some ⟨b, pre.length, none⟩)] 124)).alloc (.cells #[.int .i64 0, .string ⟨#[]⟩, .int .i64 0, .int .i64 0, .int .i64 0, .int .i64 0] 169)).alloc (.cells #[.int .i64 x.st] 3)).alloc (.cells #[.int .i64 x.p] 3)).alloc (.cells #[.int .i64 x.wd] 3)).alloc (.cells #[.int .i64 x.cl] 3)).alloc (.cells #[.int .i64 x.cs] 3)).heap[i]? = some ob → ¬ i = b → w1.heap[i]? = some ob) := ⟨fun i ob hi hne => (HO.out.grown.block i (Array.getElem?_eq_some_iff.1 hi).1 (by intro e; injection e with e; omega)).trans hi⟩
    have HR1 := Aside0.mk (HBK.out _ _ HB.out.2.1 (by omega))
    have HG1 := Aside0.mk (HBK.out _ _ HB.out.1 (by omega))
    have HG0 := Aside0.mk (HBK.out _ _ HB.out.2.2.1 (by omega))
    have HG2 := Aside0.mk (HBK.out _ _ HB.out.2.2.2.1 (by omega))
    have HG3 := Aside0.mk (HBK.out _ _ HB.out.2.2.2.2.1 (by omega))
    have HG4 := Aside0.mk (HBK.out _ _ HB.out.2.2.2.2.2.1 (by omega))
    have HG5 := Aside0.mk (HBK.out _ _ HB.out.2.2.2.2.2.2 (by omega))
    obtain ⟨hcz, hfz⟩ := cells_in HR1.out
    have z0 := hcz 0
    have z1 := hcz 1
    have z2 := hcz 2
    have z3 := hcz 3
    have z4 := hcz 4
    have z5 := hcz 5
    simp only [List.getElem?_toArray, List.getElem?_cons_zero, List.getElem?_cons_succ] at z0 z1 z2 z3 z4 z5
    clear hcz
    have HL6 : Aside0 (LexAt ((((((w1.setCell ⟨w.heap.size + 1, 0, none⟩ (.int .i64 k)).setCell ⟨w.heap.size + 1, 1, none⟩ (.string (s.extract y.st.toNat y.p.toNat))).setCell ⟨w.heap.size + 1, 2, none⟩ (.int .i64 y.st)).setCell ⟨w.heap.size + 1, 3, none⟩ (.int .i64 y.p)).setCell ⟨w.heap.size + 1, 4, none⟩ (.int .i64 y.cl)).setCell ⟨w.heap.size + 1, 5, none⟩ (.int .i64 y.cs)) b T pre post s .nilIface (emitS y)) := ⟨(((((HO.out.lex.other n1 0 (.int .i64 k)).other n1 1 (.string (s.extract y.st.toNat y.p.toNat))).other n1 2 (.int .i64 y.st)).other n1 3 (.int .i64 y.p)).other n1 4 (.int .i64 y.cl)).other n1 5 (.int .i64 y.cs)⟩
    have H8 := Aside0.mk (old_tok HR1.out (.int .i64 k) (.string (s.extract y.st.toNat y.p.toNat)) (.int .i64 y.st) (.int .i64 y.p) (.int .i64 y.cl) (.int .i64 y.cs))
    have HKP : Aside0 (∀ i, ¬ i = w.heap.size + 1 → ((((((w1.setCell ⟨w.heap.size + 1, 0, none⟩ (.int .i64 k)).setCell ⟨w.heap.size + 1, 1, none⟩ (.string (s.extract y.st.toNat y.p.toNat))).setCell ⟨w.heap.size + 1, 2, none⟩ (.int .i64 y.st)).setCell ⟨w.heap.size + 1, 3, none⟩ (.int .i64 y.p)).setCell ⟨w.heap.size + 1, 4, none⟩ (.int .i64 y.cl)).setCell ⟨w.heap.size + 1, 5, none⟩ (.int .i64 y.cs)).heap[i]? = w1.heap[i]?) := ⟨fun i hi => by rw [Below.heap_setCell _ _ _ _ (by show i ≠ w.heap.size + 1; omega), Below.heap_setCell _ _ _ _ (by show i ≠ w.heap.size + 1; omega), Below.heap_setCell _ _ _ _ (by show i ≠ w.heap.size + 1; omega), Below.heap_setCell _ _ _ _ (by show i ≠ w.heap.size + 1; omega), Below.heap_setCell _ _ _ _ (by show i ≠ w.heap.size + 1; omega), Below.heap_setCell _ _ _ _ (by show i ≠ w.heap.size + 1; omega)]⟩
    have HGR : Aside0 (w.grownBy ((((((w1.setCell ⟨w.heap.size + 1, 0, none⟩ (.int .i64 k)).setCell ⟨w.heap.size + 1, 1, none⟩ (.string (s.extract y.st.toNat y.p.toNat))).setCell ⟨w.heap.size + 1, 2, none⟩ (.int .i64 y.st)).setCell ⟨w.heap.size + 1, 3, none⟩ (.int .i64 y.p)).setCell ⟨w.heap.size + 1, 4, none⟩ (.int .i64 y.cl)).setCell ⟨w.heap.size + 1, 5, none⟩ (.int .i64 y.cs)) (some b)) := ⟨grown_new (grown_new (grown_new (grown_new (grown_new (grown_new (pk_grown w w1 b (.cells #[.pointer (some ⟨b, pre.length, none⟩)] 124) (.cells #[.int .i64 0, .string ⟨#[]⟩, .int .i64 0, .int .i64 0, .int .i64 0, .int .i64 0] 169) (.cells #[.int .i64 x.st] 3) (.cells #[.int .i64 x.p] 3) (.cells #[.int .i64 x.wd] 3) (.cells #[.int .i64 x.cl] 3) (.cells #[.int .i64 x.cs] 3) HO.out.grown) (by omega) 0 (.int .i64 k)) (by omega) 1 (.string (s.extract y.st.toNat y.p.toNat))) (by omega) 2 (.int .i64 y.st)) (by omega) 3 (.int .i64 y.p)) (by omega) 4 (.int .i64 y.cl)) (by omega) 5 (.int .i64 y.cs)⟩
    clear HB HBK
    go_wp2
    generalize ((((((w1.setCell ⟨w.heap.size + 1, 0, none⟩ (.int .i64 k)).setCell ⟨w.heap.size + 1, 1, none⟩ (.string (s.extract y.st.toNat y.p.toNat))).setCell ⟨w.heap.size + 1, 2, none⟩ (.int .i64 y.st)).setCell ⟨w.heap.size + 1, 3, none⟩ (.int .i64 y.p)).setCell ⟨w.heap.size + 1, 4, none⟩ (.int .i64 y.cl)).setCell ⟨w.heap.size + 1, 5, none⟩ (.int .i64 y.cs)) = W6 at HL6 H8 HKP HGR ⊢
    refine leaves_cons (f := 141) (args := #[.pointer (some ⟨w.heap.size + 1 + 1, 0, none⟩), .pointer (some ⟨w.heap.size, 0, none⟩), .pointer (some ⟨w.heap.size + 1 + 1 + 1, 0, none⟩), .pointer (some ⟨w.heap.size + 1 + 1 + 1 + 1, 0, none⟩), .pointer (some ⟨w.heap.size + 1 + 1 + 1 + 1 + 1, 0, none⟩), .pointer (some ⟨w.heap.size + 1 + 1 + 1 + 1 + 1 + 1, 0, none⟩)]) (by simp) (by simp [go_sem]) ?_
    refine (peek1_calls W6 b T pre post s .nilIface x (emitS y) (w.heap.size + 1 + 1) (w.heap.size) (w.heap.size + 1 + 1 + 1) (w.heap.size + 1 + 1 + 1 + 1) (w.heap.size + 1 + 1 + 1 + 1 + 1) (w.heap.size + 1 + 1 + 1 + 1 + 1 + 1) HL6.out ((Lib.cell_of_heap (((HKP.out _ (by omega))).trans HG1.out) 0).trans rfl) ((Lib.cell_of_heap (((HKP.out _ (by omega))).trans HG0.out) 0).trans rfl) ((Lib.cell_of_heap (((HKP.out _ (by omega))).trans HG2.out) 0).trans rfl) ((Lib.cell_of_heap (((HKP.out _ (by omega))).trans HG3.out) 0).trans rfl) ((Lib.cell_of_heap (((HKP.out _ (by omega))).trans HG4.out) 0).trans rfl) ((Lib.cell_of_heap (((HKP.out _ (by omega))).trans HG5.out) 0).trans rfl) (by omega) (by omega) (by omega) (by omega) (by omega) (by omega)).mono ?_
    rintro e u' w2 ⟨rfl, rfl, hO2⟩
    have HRR := (hO2.grown.block _ (Array.getElem?_eq_some_iff.1 H8.out).1 (by intro e; injection e with e; omega)).trans H8.out
    obtain ⟨hc8, _⟩ := cells_in HRR
    have r0 := hc8 0
    have r1 := hc8 1
    have r2 := hc8 2
    have r3 := hc8 3
    have r4 := hc8 4
    have r5 := hc8 5
    simp only [List.getElem?_toArray, List.getElem?_cons_zero, List.getElem?_cons_succ] at r0 r1 r2 r3 r4 r5
    exact ⟨.tuple #[.agg #[.int .i64 k, .string (s.extract y.st.toNat y.p.toNat), .int .i64 y.st, .int .i64 y.p, .int .i64 y.cl, .int .i64 y.cs], .nilIface], by simp [results, Tryz.results113, go_sem, r0, r1, r2, r3, r4, r5], ⟨rfl, ⟨hO2.lex, HGR.out.trans hO2.grown⟩⟩⟩
end Go.Proofs.YtnnhehlieakedaaGreatDoor.Q
namespace Go.Proofs.YtnnhehlieakedaaGreatDoor.Q
open Go.RowKit Go.Lib Go.Proofs.YtnnhehlieakedaaGreatDoorW.PrintWords Go.Proofs.YtnnhehlieakedaaGreatDoorW.PrintLast Go.Proofs.YtnnhehlieakedaaGreatDoorW.PrintMore
attribute [local go_sem] max2_int min2_int max_two min_two max_three min_three max_four min_four
end Go.Proofs.YtnnhehlieakedaaGreatDoor.Q
