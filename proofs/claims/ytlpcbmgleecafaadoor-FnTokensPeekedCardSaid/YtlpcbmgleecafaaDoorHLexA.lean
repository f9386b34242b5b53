/- The lexer of package parse in memory, and its small methods: next, rewind, skip, position, emit. Condition: the library's tables as it lays them. -/
import Derived.WalkLawsBesides
import Derived.Outline
import Derived.Deep.RegionHeld3
import Derived.Maps.AppendAt
import Derived.Lib.HexFns
import Derived.Lib.HexFns2
import Derived.Lib.BufferOwn
import Derived.Test.YtlpcbmgleecafaaDoorHDec
import Derived.Test.YtlpcbmgleecafaaDoorHTabL
import Derived.Test.YtlpcbmgleecafaaDoorHSDec
set_option linter.unusedVariables false
set_option linter.unusedSimpArgs false
namespace Go.Proofs.YtlpcbmgleecafaaDoor.Q
open Go.RowKit Go.Lib Go.Proofs.YtlpcbmgleecafaaDoorW.PrintWords Go.Proofs.YtlpcbmgleecafaaDoorW.PrintLast Go.Proofs.YtlpcbmgleecafaaDoorW.PrintMore
attribute [local go_sem] max2_int min2_int max_two min_two max_three min_three max_four min_four
/-- What a lexer holds beside its input and its error: start, pos, width, column, cols. -/
structure LSt where
  st : Int
  p : Int
  wd : Int
  cl : Int
  cs : Int
def lexL (s : ByteArray) (err : Value) (x : LSt) : List Value := [.string s, err, .int .i64 x.st, .int .i64 x.p, .int .i64 x.wd, .int .i64 x.cl, .int .i64 x.cs]
/-- A lexer lies in block b, behind the cells pre. -/
def LexAt (w : World) (b T : Nat) (pre post : List Value) (s : ByteArray) (err : Value) (x : LSt) : Prop := w.heap[b]? = some (.cells (pre ++ lexL s err x ++ post).toArray T (0, 0))
section
variable {w : World} {b T : Nat} {pre post : List Value} {s : ByteArray} {err : Value} {x : LSt}
theorem LexAt.cell (h : LexAt w b T pre post s err x) (j : Nat) (v : Value) (hv : (lexL s err x)[j]? = some v) : w.cell? ⟨b, pre.length + j, none⟩ = some v := by
  unfold LexAt at h
  rw [Lib.cell_of_heap h]
  simp only [List.getElem?_toArray]
  rw [List.append_assoc, List.getElem?_append_right (by omega), Nat.add_sub_cancel_left, List.getElem?_append_left (List.getElem?_eq_some_iff.1 hv).1]
  exact hv
theorem LexAt.free (h : LexAt w b T pre post s err x) (j : Nat) : w.frozen? ⟨b, j, none⟩ = false := by
  unfold LexAt at h
  simp [World.frozen?, h]
theorem LexAt.lt (h : LexAt w b T pre post s err x) : b < w.heap.size := (Array.getElem?_eq_some_iff.1 h).1
theorem LexAt.set (h : LexAt w b T pre post s err x) (j : Nat) (hj : j < 7) (v : Value) {err' : Value} {x' : LSt} (hx : (lexL s err x).set j v = lexL s err' x') : LexAt (w.setCell ⟨b, pre.length + j, none⟩ v) b T pre post s err' x' := by
  unfold LexAt at *
  have hl : (lexL s err x).length = 7 := rfl
  rw [← hx]
  simp only [World.setCell, Array.getElem?_modify, h]
  simp only [if_true, Option.map_some, Option.some.injEq, Obj.cells.injEq, and_true]
  apply Array.ext'
  simp only [Option.isSome_none, Bool.false_eq_true, if_false, Array.toList_setIfInBounds]
  rw [List.append_assoc, List.append_assoc, List.set_append_right _ _ (by omega), Nat.add_sub_cancel_left, List.set_append_left _ _ (by omega)]
theorem LexAt.kept {w' : World} {row : Option Nat} (h : LexAt w b T pre post s err x) (hg : w.grownBy w' row) (hr : row ≠ some b) : LexAt w' b T pre post s err x :=
  (hg.block b h.lt (Ne.symm hr)).trans h
theorem LexAt.below {w' : World} (h : LexAt w b T pre post s err x) (hb : Below w.heap.size w w') : LexAt w' b T pre post s err x := (hb.block b h.lt).trans h
end
/-- What the cursor reads next: the character, or -1 at the end, and the state behind it. -/
def nextR (s : ByteArray) (p : Int) : Int := if p.toNat < s.size then ((Utf8.decode s p.toNat).1 : Int) else -1
def nextS (s : ByteArray) (x : LSt) : LSt := if x.p.toNat < s.size then { x with wd := (Utf8.decode s x.p.toNat).2, p := x.p + (Utf8.decode s x.p.toNat).2, cs := x.cs + 1 } else { x with wd := 0 }
def backS (x : LSt) : LSt := { x with p := x.p - x.wd, cs := if 0 < x.wd then x.cs - 1 else x.cs }
/-- A state that a lexer comes to. -/
structure LOk (s : ByteArray) (x : LSt) : Prop where
  p0 : 0 ≤ x.p
  p1 : x.p ≤ s.size
  s0 : 0 ≤ x.st
  s1 : x.st ≤ x.p
  w0 : 0 ≤ x.wd
  w1 : x.wd ≤ 4
  c0 : 0 ≤ x.cl
  c1 : x.cl ≤ 9000000000
  d0 : -1 ≤ x.cs
  d1 : x.cs ≤ 9000000000
  big : s.size ≤ 4294967296
theorem decode_cut (s : ByteArray) (p : Nat) (h : p < s.size) : Lib.decodeGo (s.extract p s.size) = Utf8.decode s p := by
  have hz : (s.extract p s.size).size = s.size - p := by rw [ByteArray.size_extract]; omega
  unfold Lib.decodeGo
  rw [if_neg (by omega)]
  have hb : ∀ k, (s.extract p s.size).get! (0 + k) = s.get! (p + k) := fun k => by
    rw [Nat.zero_add]
    by_cases hk : p + k < s.size
    · have h1 : k < (s.extract p s.size).size := by omega
      have e1 : (s.extract p s.size).get! k = (s.extract p s.size)[k]'h1 := by
        generalize s.extract p s.size = t at *
        obtain ⟨⟨l⟩⟩ := t
        have h' : k < l.length := h1
        simp [ByteArray.get!, h']
        rfl
      have e2 : s.get! (p + k) = s[p + k]'hk := by
        obtain ⟨⟨l⟩⟩ := s
        have h' : p + k < l.length := hk
        simp [ByteArray.get!, h']
        rfl
      rw [e1, e2, ByteArray.getElem_extract]
    · have e1 : ∀ (t : ByteArray) (j : Nat), ¬ j < t.size → t.get! j = default := fun t j hj => by
        obtain ⟨⟨l⟩⟩ := t
        have h' : ¬ j < l.length := hj
        simp [ByteArray.get!, h']
      rw [e1 _ _ (by omega), e1 _ _ hk]
  have hs : ∀ k, (0 + k < (s.extract p s.size).size) = (p + k < s.size) := fun k => by rw [hz]; apply propext; omega
  unfold Utf8.decode
  simp only [hb, hs]
section
variable {w : World} {b T : Nat} {pre post : List Value} {s : ByteArray} {err : Value} {x : LSt}
theorem LexAt.c0 (h : LexAt w b T pre post s err x) : w.cell? ⟨b, pre.length, none⟩ = some (.string s) := h.cell 0 _ rfl
theorem LexAt.c1 (h : LexAt w b T pre post s err x) : w.cell? ⟨b, pre.length + 1, none⟩ = some err := h.cell 1 _ rfl
theorem LexAt.c2 (h : LexAt w b T pre post s err x) : w.cell? ⟨b, pre.length + 2, none⟩ = some (.int .i64 x.st) := h.cell 2 _ rfl
theorem LexAt.c3 (h : LexAt w b T pre post s err x) : w.cell? ⟨b, pre.length + 3, none⟩ = some (.int .i64 x.p) := h.cell 3 _ rfl
theorem LexAt.c4 (h : LexAt w b T pre post s err x) : w.cell? ⟨b, pre.length + 4, none⟩ = some (.int .i64 x.wd) := h.cell 4 _ rfl
theorem LexAt.c5 (h : LexAt w b T pre post s err x) : w.cell? ⟨b, pre.length + 5, none⟩ = some (.int .i64 x.cl) := h.cell 5 _ rfl
theorem LexAt.c6 (h : LexAt w b T pre post s err x) : w.cell? ⟨b, pre.length + 6, none⟩ = some (.int .i64 x.cs) := h.cell 6 _ rfl
theorem LexAt.set1 (h : LexAt w b T pre post s err x) (v : Value) : LexAt (w.setCell ⟨b, pre.length + 1, none⟩ v) b T pre post s v x := h.set 1 (by omega) _ rfl
theorem LexAt.set2 (h : LexAt w b T pre post s err x) (v : Int) : LexAt (w.setCell ⟨b, pre.length + 2, none⟩ (.int .i64 v)) b T pre post s err { x with st := v } := h.set 2 (by omega) _ rfl
theorem LexAt.set3 (h : LexAt w b T pre post s err x) (v : Int) : LexAt (w.setCell ⟨b, pre.length + 3, none⟩ (.int .i64 v)) b T pre post s err { x with p := v } := h.set 3 (by omega) _ rfl
theorem LexAt.set4 (h : LexAt w b T pre post s err x) (v : Int) : LexAt (w.setCell ⟨b, pre.length + 4, none⟩ (.int .i64 v)) b T pre post s err { x with wd := v } := h.set 4 (by omega) _ rfl
theorem LexAt.set5 (h : LexAt w b T pre post s err x) (v : Int) : LexAt (w.setCell ⟨b, pre.length + 5, none⟩ (.int .i64 v)) b T pre post s err { x with cl := v } := h.set 5 (by omega) _ rfl
theorem LexAt.set6 (h : LexAt w b T pre post s err x) (v : Int) : LexAt (w.setCell ⟨b, pre.length + 6, none⟩ (.int .i64 v)) b T pre post s err { x with cs := v } := h.set 6 (by omega) _ rfl
theorem LexAt.drewN (h : LexAt w b T pre post s err x) (n : Nat) : LexAt (w.drewN n) b T pre post s err x := h.below (pw_below_drewN (Below.refl _ _) n)
end
/-- What a method of the lexer leaves: the lexer in a state, everything else as it was. -/
structure LexOut (w w' : World) (b T : Nat) (pre post : List Value) (s : ByteArray) (err : Value) (x : LSt) : Prop where
  lex : LexAt w' b T pre post s err x
  grown : w.grownBy w' (some b)
theorem grown_set {w w' : World} {b : Nat} (h : w.grownBy w' (some b)) (o : Nat) (v : Value) : w.grownBy (w'.setCell ⟨b, o, none⟩ v) (some b) := grownBy_setB h o v
theorem grown_drewN {w : World} (n : Nat) (row : Option Nat) : w.grownBy (w.drewN n) row := grownBy_below (World.grownBy.refl w row) (pw_below_drewN (Below.refl _ _) n)
set_option maxRecDepth 100000 in
set_option maxHeartbeats 1000000 in
theorem next_calls (w : World) (b T : Nat) (pre post : List Value) (s : ByteArray) (err : Value) (x : LSt) (h : LexAt w b T pre post s err x) (hk : LOk s x) (tb : TBl w) :
    Calls Tryd.prog 25 #[.pointer (some ⟨b, pre.length, none⟩)] w fun e w' => e = .returned (.int .i32 (nextR s x.p)) ∧ LexOut w w' b T pre post s err (nextS s x) := by
  have HL := Aside0.mk h
  have HT := Aside0.mk tb
  have c0 := h.c0
  have c3 := h.c3
  have c4 := h.c4
  have c6 := h.c6
  have f3 := h.free (pre.length + 3)
  have f4 := h.free (pre.length + 4)
  have f6 := h.free (pre.length + 6)
  obtain ⟨p0, p1, -, -, -, -, -, -, d0, d1, big⟩ := hk
  clear h tb
  by_cases hp : x.p.toNat < s.size
  · have hlt : x.p < (s.size : Int) := by omega
    have hge : ((s.size : Int) ≤ x.p) = False := eq_false (by omega)
    have HF := Aside0.mk (decode_fits s x.p.toNat hp)
    have HD := Aside0.mk (decode_cut s x.p.toNat hp)
    have HO : Aside0 (nextR s x.p = ((Utf8.decode s x.p.toNat).1 : Int) ∧ nextS s x = { x with wd := (Utf8.decode s x.p.toNat).2, p := x.p + (Utf8.decode s x.p.toNat).2, cs := x.cs + 1 }) := ⟨by unfold nextR nextS; rw [if_pos hp, if_pos hp]; exact ⟨rfl, rfl⟩⟩
    rw [HO.out.1, HO.out.2]
    generalize hdd : Utf8.decode s x.p.toNat = dd at *
    obtain ⟨c, wd⟩ := dd
    have hfit := HF.out
    simp only at hfit
    clear hdd
    have HP := Aside0.mk hp
    clear hp
    go_enter Tryd.func25, Tryd.ntmps25
    go_wp2
    go_quiet (fail)
    go_wp2_with fail
    go_region_with (go_at_call 37; refine (Tryd.utf8_DecodeRuneInString _ _ (TBu.below HT.out.1 (by repeat (first | (with_reducible exact Below.refl _ _) | apply below_drew1 | apply pw_below_drewN)))).mono ?_; rintro e w2 ⟨rfl, hB⟩; rw [HD.out]; have HL2 := Aside0.mk ((HL.out.below (by repeat (first | (with_reducible exact Below.refl _ _) | apply below_drew1 | apply pw_below_drewN))).below hB); have HG2 := Aside0.mk (grownBy_below (grownBy_below (World.grownBy.refl w (some b)) (by repeat (first | (with_reducible exact Below.refl _ _) | apply below_drew1 | apply pw_below_drewN))) hB); clear hB c0 c3 c4 c6 f3 f4 f6; have c3 := HL2.out.c3; have c4 := HL2.out.c4; have c6 := HL2.out.c6; have f3 := HL2.out.free (pre.length + 3); have f4 := HL2.out.free (pre.length + 4); have f6 := HL2.out.free (pre.length + 6))
    all_goals
      go_wp2
      go_ret
      refine ⟨rfl, ?_, ?_⟩
      · have z := ((HL2.out.set4 (wd : Int)).set3 (x.p + wd)).set6 (x.cs + 1)
        exact z
      · exact grown_set (grown_set (grown_set HG2.out _ _) _ _) _ _
  · have hge : ((s.size : Int) ≤ x.p) = True := eq_true (by omega)
    have HO : Aside0 (nextR s x.p = -1 ∧ nextS s x = { x with wd := 0 }) := ⟨by unfold nextR nextS; rw [if_neg hp, if_neg hp]; exact ⟨rfl, rfl⟩⟩
    rw [HO.out.1, HO.out.2]
    clear hp
    go_enter Tryd.func25, Tryd.ntmps25
    go_wp2
    go_quiet (fail)
    go_wp2
    go_ret
    exact ⟨rfl, (HL.out.drewN _).set4 0, grown_set (grown_drewN _ _) _ _⟩
end Go.Proofs.YtlpcbmgleecafaaDoor.Q
