/- The lexer's methods rewind, skip, position and emit. No condition beyond the lexer's state. -/
import Derived.Test.YtlpcbmgleecafaaDoorHLexA
import Derived.BigRegion
import Derived.RegionTactic
set_option linter.unusedVariables false
set_option linter.unusedSimpArgs false
namespace Go.Proofs.YtlpcbmgleecafaaDoor.Q
open Go.RowKit Go.Lib Go.Proofs.YtlpcbmgleecafaaDoorW.PrintWords Go.Proofs.YtlpcbmgleecafaaDoorW.PrintLast Go.Proofs.YtlpcbmgleecafaaDoorW.PrintMore
attribute [local go_sem] max2_int min2_int max_two min_two max_three min_three max_four min_four
set_option maxRecDepth 100000 in
set_option maxHeartbeats 1000000 in
theorem rewind_calls (w : World) (b T : Nat) (pre post : List Value) (s : ByteArray) (err : Value) (x : LSt) (h : LexAt w b T pre post s err x) (hk : LOk s x) :
    Calls Tryd.prog 27 #[.pointer (some ⟨b, pre.length, none⟩)] w fun e w' => e = .returned (.tuple #[]) ∧ LexOut w w' b T pre post s err (backS x) := by
  have HL := Aside0.mk h
  have c3 := h.c3
  have c4 := h.c4
  have c6 := h.c6
  have f3 := h.free (pre.length + 3)
  have f6 := h.free (pre.length + 6)
  obtain ⟨p0, p1, -, -, w0, w1, -, -, d0, d1, big⟩ := hk
  have HO : Aside0 (backS x = { x with p := x.p - x.wd, cs := if 0 < x.wd then x.cs - 1 else x.cs }) := ⟨rfl⟩
  rw [HO.out]
  clear h
  by_cases hw : 0 < x.wd
  · rw [if_pos hw]
    go_enter Tryd.func27, Tryd.ntmps27
    go_wp2
    go_region
    all_goals
      go_wp2
      go_end0
      exact ⟨rfl, (HL.out.drewN 1).set3 (x.p - x.wd) |>.set6 (x.cs - 1), grown_set (grown_set (grown_drewN 1 _) _ _) _ _⟩
  · rw [if_neg hw]
    go_enter Tryd.func27, Tryd.ntmps27
    go_wp2
    go_region
    all_goals
      go_wp2
      go_end0
      exact ⟨rfl, (HL.out.drewN 1).set3 (x.p - x.wd), grown_set (grown_drewN 1 _) _ _⟩
def skipS (x : LSt) : LSt := { x with st := x.p, cl := x.cs }
set_option maxHeartbeats 1000000 in
theorem skip_calls (w : World) (b T : Nat) (pre post : List Value) (s : ByteArray) (err : Value) (x : LSt) (h : LexAt w b T pre post s err x) :
    Calls Tryd.prog 33 #[.pointer (some ⟨b, pre.length, none⟩)] w fun e w' => e = .returned (.tuple #[]) ∧ LexOut w w' b T pre post s err (skipS x) := by
  have HL := Aside0.mk h
  have c2 := h.c2
  have c3 := h.c3
  have c5 := h.c5
  have c6 := h.c6
  have f2 := h.free (pre.length + 2)
  have f5 := h.free (pre.length + 5)
  clear h
  go_enter Tryd.func33, Tryd.ntmps33
  go_wp2
  go_end0
  exact ⟨rfl, (HL.out.set2 x.p).set5 x.cs, grown_set (grown_set (World.grownBy.refl _ _) _ _) _ _⟩
def posV (x : LSt) : Value := .agg #[.int .i64 x.st, .int .i64 x.p, .int .i64 x.cl, .int .i64 x.cs]
set_option maxRecDepth 100000 in
set_option maxHeartbeats 1000000 in
theorem position_calls (w : World) (b T : Nat) (pre post : List Value) (s : ByteArray) (err : Value) (x : LSt) (h : LexAt w b T pre post s err x) :
    Calls Tryd.prog 34 #[.pointer (some ⟨b, pre.length, none⟩)] w fun e w' => e = .returned (posV x) ∧ Below w.heap.size w w' := by
  have HL := Aside0.mk h
  have hlt := h.lt
  have c2 := h.c2
  have c3 := h.c3
  have c5 := h.c5
  have c6 := h.c6
  clear h
  go_enter Tryd.func34, Tryd.ntmps34
  go_wp2
  go_region_held3 (fun w' => w'.cell? ⟨b, pre.length + 2, none⟩ = some (.int .i64 x.st) ∧ w'.cell? ⟨b, pre.length + 3, none⟩ = some (.int .i64 x.p) ∧ w'.cell? ⟨b, pre.length + 5, none⟩ = some (.int .i64 x.cl) ∧ w'.cell? ⟨b, pre.length + 6, none⟩ = some (.int .i64 x.cs))
    (first | go_keep)
    (first | fail)
  go_wp2
  exact bodyPost_ret (v := posV x) (by simp [results, Tryd.results34, go_sem, posV]) rfl ⟨rfl, below_drew (below_alloc (Below.refl _ _) _)⟩
theorem pos2_calls (w W : World) (b T : Nat) (pre post : List Value) (s : ByteArray) (err : Value) (x : LSt) (h : LexAt w b T pre post s err x) (hB : Below w.heap.size w W) :
    Calls Tryd.prog 34 #[.pointer (some ⟨b, pre.length, none⟩)] W fun e w2 => e = .returned (posV x) ∧ Aside0 (LexAt w2 b T pre post s err x ∧ Below w.heap.size w w2 ∧ Below W.heap.size W w2) := by
  refine (position_calls W b T pre post s err x (h.below hB)).mono ?_
  rintro e w2 ⟨rfl, hB2⟩
  exact ⟨rfl, ⟨(h.below hB).below hB2, hB.trans (hB2.mono hB.size), hB2⟩⟩
theorem cells_in {w : World} {k : Nat} {cs : Array Value} {t : Nat} (h : w.heap[k]? = some (.cells cs t (0, 0))) : (∀ j, w.cell? ⟨k, j, none⟩ = cs[j]?) ∧ ∀ j, w.frozen? ⟨k, j, none⟩ = false :=
  ⟨fun j => Lib.cell_of_heap h j, fun j => by simp [World.frozen?, h]⟩
theorem heap_one (w : World) (o p : Obj) : ((w.alloc o).alloc p).drew.heap[w.heap.size]? = some o := by
  show ((w.heap.push o).push p)[w.heap.size]? = some o
  rw [Array.getElem?_push_lt (by simp), Array.getElem_push_eq]
theorem heap_two (w : World) (o p : Obj) : ((w.alloc o).alloc p).drew.heap[w.heap.size + 1]? = some p := by
  show ((w.heap.push o).push p)[w.heap.size + 1]? = some p
  have : (w.heap.push o).size = w.heap.size + 1 := by simp
  rw [← this, Array.getElem?_push_size]
/-- What is held within emit's region: the lexer as it was, and the block of the result. -/
structure EmIn (w W : World) (b T : Nat) (pre post : List Value) (s : ByteArray) (err : Value) (x : LSt) (ob : Obj) : Prop where
  lex : LexAt W b T pre post s err x
  bel : Below w.heap.size w W
  blk : W.heap[w.heap.size]? = some ob
theorem EmIn.start {w : World} {b T : Nat} {pre post : List Value} {s : ByteArray} {err : Value} {x : LSt} {ob : Obj} (h : LexAt w b T pre post s err x) : EmIn w (w.alloc ob).drew b T pre post s err x ob :=
  ⟨(h.below (below_alloc (Below.refl _ _) _)).below (below_drew (Below.refl _ _)), below_drew (below_alloc (Below.refl _ _) _), heap_alloc_new w _⟩
theorem EmIn.start2 {w : World} {b T : Nat} {pre post : List Value} {s : ByteArray} {err : Value} {x : LSt} {ob : Obj} (h : LexAt w b T pre post s err x) (o : Obj) : EmIn w ((w.alloc ob).alloc o).drew b T pre post s err x ob :=
  have hb := below_drew (below_alloc (below_alloc (Below.refl w.heap.size w) ob) o)
  ⟨h.below hb, hb, heap_one w ob o⟩
theorem EmIn.alloc {w W : World} {b T : Nat} {pre post : List Value} {s : ByteArray} {err : Value} {x : LSt} {ob : Obj} (h : EmIn w W b T pre post s err x ob) (o : Obj) : EmIn w (W.alloc o) b T pre post s err x ob :=
  ⟨h.lex.below (below_alloc (Below.refl _ _) _), below_alloc h.bel _, ((below_alloc (Below.refl W.heap.size W) o).block _ (Array.getElem?_eq_some_iff.1 h.blk).1).trans h.blk⟩
theorem EmIn.set {w W : World} {b T : Nat} {pre post : List Value} {s : ByteArray} {err : Value} {x : LSt} {ob : Obj} (h : EmIn w W b T pre post s err x ob) (hb : b < w.heap.size) (o : Nat) (v : Value) : EmIn w (W.setCell ⟨w.heap.size + 1, o, none⟩ v) b T pre post s err x ob := by
  have e : ∀ k, k ≠ w.heap.size + 1 → (W.setCell ⟨w.heap.size + 1, o, none⟩ v).heap[k]? = W.heap[k]? := fun k hk => Below.heap_setCell _ _ _ _ hk
  exact ⟨(e b (by omega)).trans h.lex, h.bel.setCell (p := ⟨w.heap.size + 1, o, none⟩) (Nat.le_succ _) v, (e _ (by omega)).trans h.blk⟩
theorem EmIn.set6 {w W : World} {b T : Nat} {pre post : List Value} {s : ByteArray} {err : Value} {x : LSt} {ob : Obj} (h : EmIn w W b T pre post s err x ob) (hb : b < w.heap.size) (v0 v1 v2 v3 v4 v5 : Value) :
    EmIn w ((((((W.setCell ⟨w.heap.size + 1, 0, none⟩ v0).setCell ⟨w.heap.size + 1, 1, none⟩ v1).setCell ⟨w.heap.size + 1, 2, none⟩ v2).setCell ⟨w.heap.size + 1, 3, none⟩ v3).setCell ⟨w.heap.size + 1, 4, none⟩ v4).setCell ⟨w.heap.size + 1, 5, none⟩ v5) b T pre post s err x ob :=
  (((((h.set hb 0 v0).set hb 1 v1).set hb 2 v2).set hb 3 v3).set hb 4 v4).set hb 5 v5
/-- What emit's region leaves: beside what it held, a block with the token. -/
structure EmOut (w W : World) (b T : Nat) (pre post : List Value) (s : ByteArray) (err : Value) (x : LSt) (k5 : Nat) (tk : Array Value) : Prop where
  lex : LexAt W b T pre post s err x
  bel : Below w.heap.size w W
  blk : W.heap[w.heap.size]? = some (.cells #[.int .i64 0, .string ⟨#[]⟩, .int .i64 0, .int .i64 0, .int .i64 0, .int .i64 0] 56 (0, 0))
  tok : W.heap[k5]? = some (.cells tk 56 (0, 0))
  ne : b < w.heap.size ∧ w.heap.size < k5
theorem EmOut.new {w W : World} {b T : Nat} {pre post : List Value} {s : ByteArray} {err : Value} {x : LSt} (h : EmIn w W b T pre post s err x (.cells #[.int .i64 0, .string ⟨#[]⟩, .int .i64 0, .int .i64 0, .int .i64 0, .int .i64 0] 56 (0, 0))) (hb : b < w.heap.size) (tk : Array Value) : EmOut w (W.alloc (.cells tk 56)) b T pre post s err x W.heap.size tk :=
  have k := h.alloc (.cells tk 56)
  ⟨k.lex, k.bel, k.blk, heap_alloc_new W _, hb, (Array.getElem?_eq_some_iff.1 h.blk).1⟩
theorem old_tok {W : World} {k t : Nat} {z0 z1 z2 z3 z4 z5 : Value} (h : W.heap[k]? = some (.cells #[z0, z1, z2, z3, z4, z5] t (0, 0))) (v0 v1 v2 v3 v4 v5 : Value) :
    ((((((W.setCell ⟨k, 0, none⟩ v0).setCell ⟨k, 1, none⟩ v1).setCell ⟨k, 2, none⟩ v2).setCell ⟨k, 3, none⟩ v3).setCell ⟨k, 4, none⟩ v4).setCell ⟨k, 5, none⟩ v5).heap[k]? = some (.cells #[v0, v1, v2, v3, v4, v5] t (0, 0)) := by
  simp [World.setCell, Array.getElem?_modify, h]
theorem pos3_calls (w W : World) (b T : Nat) (pre post : List Value) (s : ByteArray) (err : Value) (x : LSt) (ob : Obj) (h : Aside0 (EmIn w W b T pre post s err x ob)) :
    Calls Tryd.prog 34 #[.pointer (some ⟨b, pre.length, none⟩)] W fun e w2 => e = .returned (posV x) ∧ w2.cell? ⟨b, pre.length, none⟩ = some (.string s) ∧ w2.cell? ⟨b, pre.length + 2, none⟩ = some (.int .i64 x.st) ∧ w2.cell? ⟨b, pre.length + 3, none⟩ = some (.int .i64 x.p) ∧ Aside0 (EmIn w w2 b T pre post s err x ob) ∧ Aside0 (Below W.heap.size W w2) := by
  refine (position_calls W b T pre post s err x h.out.lex).mono ?_
  rintro e w2 ⟨rfl, hB⟩
  have hl := h.out.lex.below hB
  exact ⟨rfl, hl.c0, hl.c2, hl.c3, ⟨hl, h.out.bel.trans (hB.mono h.out.bel.size), (hB.block _ (Array.getElem?_eq_some_iff.1 h.out.blk).1).trans h.out.blk⟩, ⟨hB⟩⟩
theorem LexAt.other {w : World} {b T : Nat} {pre post : List Value} {s : ByteArray} {err : Value} {x : LSt} (h : LexAt w b T pre post s err x) {k : Nat} (hk : ¬ b = k) (o : Nat) (v : Value) : LexAt (w.setCell ⟨k, o, none⟩ v) b T pre post s err x :=
  (Below.heap_setCell w ⟨k, o, none⟩ v b hk).trans h
theorem grown_new {w w' : World} {b k : Nat} (h : w.grownBy w' (some b)) (hk : w.heap.size ≤ k) (o : Nat) (v : Value) : w.grownBy (w'.setCell ⟨k, o, none⟩ v) (some b) :=
  ⟨h.os, h.tape, h.output, by have := h.size; simpa [World.setCell] using this, fun i hi hr => (Below.heap_setCell w' ⟨k, o, none⟩ v i (by show i ≠ k; omega)).trans (h.block i hi hr)⟩
def tokC (k : Int) (v : ByteArray) (x : LSt) : Array Value := #[.int .i64 k, .string v, .int .i64 x.st, .int .i64 x.p, .int .i64 x.cl, .int .i64 x.cs]
def tokV (k : Int) (v : ByteArray) (x : LSt) : Value := .agg #[.int .i64 k, .string v, .int .i64 x.st, .int .i64 x.p, .int .i64 x.cl, .int .i64 x.cs]
def emitS (x : LSt) : LSt := { x with st := x.p, cl := x.cs }
set_option maxRecDepth 100000 in
set_option maxHeartbeats 1000000 in
theorem emit_calls (w : World) (b T : Nat) (pre post : List Value) (s : ByteArray) (err : Value) (x : LSt) (k : Int) (h : LexAt w b T pre post s err x) (hk : LOk s x) :
    Calls Tryd.prog 26 #[.pointer (some ⟨b, pre.length, none⟩), .int .i64 k] w fun e w' => e = .returned (tokV k (s.extract x.st.toNat x.p.toNat) x) ∧ LexOut w w' b T pre post s err (emitS x) := by
  have HL := Aside0.mk h
  have hlt := h.lt
  have c0 := h.c0
  have c2 := h.c2
  have c3 := h.c3
  have c5 := h.c5
  have c6 := h.c6
  have f2 := h.free (pre.length + 2)
  have f5 := h.free (pre.length + 5)
  obtain ⟨p0, p1, s0, s1, -, -, -, -, -, -, big⟩ := hk
  have hne : b ≠ w.heap.size := by omega
  clear h
  go_enter Tryd.func26, Tryd.ntmps26
  go_upto_region 1 with (fail)
  go_cut [5] (fun v5 wc => ∃ k5 : Nat, v5 = .pointer (some ⟨k5, 0, none⟩) ∧ Aside0 (EmOut w wc b T pre post s err x k5 (tokC k (s.extract x.st.toNat x.p.toNat) x)))
  case first =>
    go_region_held3 (fun w' => w'.cell? ⟨b, pre.length, none⟩ = some (.string s) ∧ w'.cell? ⟨b, pre.length + 2, none⟩ = some (.int .i64 x.st) ∧ w'.cell? ⟨b, pre.length + 3, none⟩ = some (.int .i64 x.p) ∧ Aside0 (EmIn w w' b T pre post s err x (.cells #[.int .i64 0, .string ⟨#[]⟩, .int .i64 0, .int .i64 0, .int .i64 0, .int .i64 0] 56)))
      (first | (with_reducible exact ⟨(EmIn.set6 g4.out (by have := g4.out.lex.lt; have := HL.out.lt; omega) _ _ _ _ _ _).lex.c0, (EmIn.set6 g4.out (by have := g4.out.lex.lt; have := HL.out.lt; omega) _ _ _ _ _ _).lex.c2, (EmIn.set6 g4.out (by have := g4.out.lex.lt; have := HL.out.lt; omega) _ _ _ _ _ _).lex.c3, ⟨(EmIn.set6 g4.out (by have := g4.out.lex.lt; have := HL.out.lt; omega) _ _ _ _ _ _)⟩⟩) | ((with_reducible refine ⟨?_, ?_, ?_, ?_⟩) <;> (with_reducible assumption)) | (with_reducible exact ⟨(EmIn.start2 HL.out _).lex.c0, (EmIn.start2 HL.out _).lex.c2, (EmIn.start2 HL.out _).lex.c3, ⟨EmIn.start2 HL.out _⟩⟩) | (with_reducible exact ⟨(EmIn.alloc g4.out _).lex.c0, (EmIn.alloc g4.out _).lex.c2, (EmIn.alloc g4.out _).lex.c3, ⟨EmIn.alloc g4.out _⟩⟩) | (with_reducible exact ⟨(EmIn.start HL.out).lex.c0, (EmIn.start HL.out).lex.c2, (EmIn.start HL.out).lex.c3, ⟨EmIn.start HL.out⟩⟩) | (go_loud (fail)))
      (first | (go_at_call 34; (with_reducible refine (pos3_calls w _ b T pre post s err x (.cells #[.int .i64 0, .string ⟨#[]⟩, .int .i64 0, .int .i64 0, .int .i64 0, .int .i64 0] 56) ⟨EmIn.start HL.out⟩).mono ?_); rintro e w2 ⟨rfl, g0, g2, g3, g4, _⟩; unfold posV) | (go_at_call 34; (with_reducible refine (pos3_calls w ((w.alloc (.cells #[.int .i64 0, .string ⟨#[]⟩, .int .i64 0, .int .i64 0, .int .i64 0, .int .i64 0] 56)).alloc (.cells #[.int .i64 0, .string ⟨#[]⟩, .int .i64 0, .int .i64 0, .int .i64 0, .int .i64 0] 56)).drew b T pre post s err x (.cells #[.int .i64 0, .string ⟨#[]⟩, .int .i64 0, .int .i64 0, .int .i64 0, .int .i64 0] 56) ⟨EmIn.start2 HL.out _⟩).mono ?_); rintro e w2 ⟨rfl, g0, g2, g3, g4, g5⟩; unfold posV; have hq5 := (g5.out.block (w.heap.size + 1) (by simp)).trans (heap_two w _ _); obtain ⟨k3, k4⟩ := cells_in hq5))
    all_goals
      go_wp2_with fail
      go_meet
      case rel => unfold tokC; first | (with_reducible exact ⟨_, rfl, ⟨EmOut.new g4.out HL.out.lt _⟩⟩) | (with_reducible refine ⟨_, rfl, ⟨(EmIn.set6 g4.out HL.out.lt _ _ _ _ _ _).lex, (EmIn.set6 g4.out HL.out.lt _ _ _ _ _ _).bel, (EmIn.set6 g4.out HL.out.lt _ _ _ _ _ _).blk, ?_, HL.out.lt, Nat.lt_succ_self _⟩⟩; exact old_tok hq5 _ _ _ _ _ _)
  case rest =>
    obtain ⟨k5, rfl, HE⟩ := hcut
    clear c0 c2 c3 c5 c6 f2 f5
    have c2 := HE.out.lex.c2
    have c3 := HE.out.lex.c3
    have c5 := HE.out.lex.c5
    have c6 := HE.out.lex.c6
    have f2 := HE.out.lex.free (pre.length + 2)
    have f5 := HE.out.lex.free (pre.length + 5)
    obtain ⟨hn1, hn2⟩ := HE.out.ne
    have n1 : ¬ k5 = b := by omega
    have n2 : ¬ w.heap.size = b := by omega
    have n3 : ¬ k5 = w.heap.size := by omega
    have n4 : ¬ b = k5 := by omega
    have n5 : ¬ b = w.heap.size := by omega
    have n6 : ¬ w.heap.size = k5 := by omega
    have hbt := HE.out.tok
    have hbz := HE.out.blk
    have t0 : wc.cell? ⟨k5, 0, none⟩ = some (.int .i64 k) := by rw [Lib.cell_of_heap hbt]; rfl
    have t1 : wc.cell? ⟨k5, 1, none⟩ = some (.string (s.extract x.st.toNat x.p.toNat)) := by rw [Lib.cell_of_heap hbt]; rfl
    have t2 : wc.cell? ⟨k5, 2, none⟩ = some (.int .i64 x.st) := by rw [Lib.cell_of_heap hbt]; rfl
    have t3 : wc.cell? ⟨k5, 3, none⟩ = some (.int .i64 x.p) := by rw [Lib.cell_of_heap hbt]; rfl
    have t4 : wc.cell? ⟨k5, 4, none⟩ = some (.int .i64 x.cl) := by rw [Lib.cell_of_heap hbt]; rfl
    have t5 : wc.cell? ⟨k5, 5, none⟩ = some (.int .i64 x.cs) := by rw [Lib.cell_of_heap hbt]; rfl
    have z0 : wc.cell? ⟨w.heap.size, 0, none⟩ = some (.int .i64 0) := by rw [Lib.cell_of_heap hbz]; rfl
    have z1 : wc.cell? ⟨w.heap.size, 1, none⟩ = some (.string ⟨#[]⟩) := by rw [Lib.cell_of_heap hbz]; rfl
    have z2 : wc.cell? ⟨w.heap.size, 2, none⟩ = some (.int .i64 0) := by rw [Lib.cell_of_heap hbz]; rfl
    have z3 : wc.cell? ⟨w.heap.size, 3, none⟩ = some (.int .i64 0) := by rw [Lib.cell_of_heap hbz]; rfl
    have z4 : wc.cell? ⟨w.heap.size, 4, none⟩ = some (.int .i64 0) := by rw [Lib.cell_of_heap hbz]; rfl
    have z5 : wc.cell? ⟨w.heap.size, 5, none⟩ = some (.int .i64 0) := by rw [Lib.cell_of_heap hbz]; rfl
    have f0 : ∀ j, wc.frozen? ⟨w.heap.size, j, none⟩ = false := fun j => by simp [World.frozen?, hbz]
    clear hbt hbz
    have hb2 : ((wc.setCell ⟨b, pre.length + 2, none⟩ (.int .i64 x.p)).setCell ⟨b, pre.length + 5, none⟩ (.int .i64 x.cs)).heap[w.heap.size]? = some (.cells #[.int .i64 0, .string ⟨#[]⟩, .int .i64 0, .int .i64 0, .int .i64 0, .int .i64 0] 56 (0, 0)) := by
      rw [Below.heap_setCell _ _ _ _ n2, Below.heap_setCell _ _ _ _ n2]
      exact HE.out.blk
    have hb8 := old_tok hb2 (.int .i64 k) (.string (s.extract x.st.toNat x.p.toNat)) (.int .i64 x.st) (.int .i64 x.p) (.int .i64 x.cl) (.int .i64 x.cs)
    have hL2 := (HE.out.lex.set2 x.p).set5 x.cs
    have hG2 := grown_set (grown_set (grownBy_below (World.grownBy.refl w (some b)) HE.out.bel) (pre.length + 2) (.int .i64 x.p)) (pre.length + 5) (.int .i64 x.cs)
    have hL8 := (((((hL2.other n5 0 (.int .i64 k)).other n5 1 (.string (s.extract x.st.toNat x.p.toNat))).other n5 2 (.int .i64 x.st)).other n5 3 (.int .i64 x.p)).other n5 4 (.int .i64 x.cl)).other n5 5 (.int .i64 x.cs)
    have hG8 := grown_new (grown_new (grown_new (grown_new (grown_new (grown_new hG2 (Nat.le_refl _) 0 (.int .i64 k)) (Nat.le_refl _) 1 (.string (s.extract x.st.toNat x.p.toNat))) (Nat.le_refl _) 2 (.int .i64 x.st)) (Nat.le_refl _) 3 (.int .i64 x.p)) (Nat.le_refl _) 4 (.int .i64 x.cl)) (Nat.le_refl _) 5 (.int .i64 x.cs)
    have H8 := Aside0.mk (And.intro hb8 (And.intro hL8 hG8))
    clear hb2 hb8 hL2 hG2 hL8 hG8
    go_wp2
    generalize ((((((((wc.setCell ⟨b, pre.length + 2, none⟩ (.int .i64 x.p)).setCell ⟨b, pre.length + 5, none⟩ (.int .i64 x.cs)).setCell ⟨w.heap.size, 0, none⟩ (.int .i64 k)).setCell ⟨w.heap.size, 1, none⟩ (.string (s.extract x.st.toNat x.p.toNat))).setCell ⟨w.heap.size, 2, none⟩ (.int .i64 x.st)).setCell ⟨w.heap.size, 3, none⟩ (.int .i64 x.p)).setCell ⟨w.heap.size, 4, none⟩ (.int .i64 x.cl)).setCell ⟨w.heap.size, 5, none⟩ (.int .i64 x.cs)) = W at H8 ⊢
    obtain ⟨hb8, hL8, hG8⟩ := H8.out
    have r0 : W.cell? ⟨w.heap.size, 0, none⟩ = some (.int .i64 k) := by rw [Lib.cell_of_heap hb8]; rfl
    have r1 : W.cell? ⟨w.heap.size, 1, none⟩ = some (.string (s.extract x.st.toNat x.p.toNat)) := by rw [Lib.cell_of_heap hb8]; rfl
    have r2 : W.cell? ⟨w.heap.size, 2, none⟩ = some (.int .i64 x.st) := by rw [Lib.cell_of_heap hb8]; rfl
    have r3 : W.cell? ⟨w.heap.size, 3, none⟩ = some (.int .i64 x.p) := by rw [Lib.cell_of_heap hb8]; rfl
    have r4 : W.cell? ⟨w.heap.size, 4, none⟩ = some (.int .i64 x.cl) := by rw [Lib.cell_of_heap hb8]; rfl
    have r5 : W.cell? ⟨w.heap.size, 5, none⟩ = some (.int .i64 x.cs) := by rw [Lib.cell_of_heap hb8]; rfl
    exact bodyPost_ret (v := tokV k (s.extract x.st.toNat x.p.toNat) x) (by simp [results, Tryd.results26, go_sem, tokV, r0, r1, r2, r3, r4, r5]) rfl ⟨rfl, hL8, hG8⟩
end Go.Proofs.YtlpcbmgleecafaaDoor.Q
