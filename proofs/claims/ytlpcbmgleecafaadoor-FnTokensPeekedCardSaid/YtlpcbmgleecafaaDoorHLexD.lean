/- The lexer's accept, expect and scanUnquoted. Condition: the library's tables as it lays them, below the lexer's block. -/
import Derived.Test.YtlpcbmgleecafaaDoorHLexC
import Derived.Outline
set_option linter.unusedVariables false
set_option linter.unusedSimpArgs false
namespace Go.Proofs.YtlpcbmgleecafaaDoor.Q
open Go.RowKit Go.Lib Go.Proofs.YtlpcbmgleecafaaDoorW.PrintWords Go.Proofs.YtlpcbmgleecafaaDoorW.PrintLast Go.Proofs.YtlpcbmgleecafaaDoorW.PrintMore
attribute [local go_sem] max2_int min2_int max_two min_two max_three min_three max_four min_four
/-- A state that the lexer comes to: no more characters than bytes have been read. -/
structure LGd (s : ByteArray) (x : LSt) : Prop where
  p1 : x.p ≤ s.size
  s0 : 0 ≤ x.st
  s1 : x.st ≤ x.p
  w0 : 0 ≤ x.wd
  w1 : x.wd ≤ 4
  c0 : 0 ≤ x.cl
  c1 : x.cl ≤ x.cs
  d1 : x.cs ≤ x.p
  big : s.size ≤ 4294967296
section
variable {s : ByteArray} {x : LSt}
theorem LGd.ok (h : LGd s x) : LOk s x := by
  have := h.p1; have := h.s0; have := h.s1; have := h.c0; have := h.c1; have := h.d1; have := h.big
  exact ⟨by omega, h.p1, h.s0, h.s1, h.w0, h.w1, h.c0, by omega, by omega, by omega, h.big⟩
theorem width4 (s : ByteArray) (p : Nat) : (Utf8.decode s p).2 ≤ 4 := by
  unfold Utf8.decode
  dsimp only
  (repeat' split) <;> simp
theorem LGd.next (h : LGd s x) : LGd s (nextS s x) := by
  have := h.p1; have := h.s0; have := h.s1; have := h.c0; have := h.c1; have := h.d1
  unfold nextS
  split
  · rename_i hp
    have hf := decode_fits s x.p.toNat hp
    have hw4 := width4 s x.p.toNat
    exact ⟨by simp; omega, h.s0, by simp; omega, by simp, by simp; omega, h.c0, by simp; omega, by simp; omega, h.big⟩
  · exact ⟨h.p1, h.s0, h.s1, by simp, by simp, h.c0, h.c1, h.d1, h.big⟩
/-- One character back: the state ahead of it but for the width. -/
theorem back_next (h : LGd s x) : backS (nextS s x) = { x with wd := (nextS s x).wd } := by
  have := h.s0; have := h.s1
  unfold nextS backS
  split
  · rename_i hp
    have hf := decode_fits s x.p.toNat hp
    have e1 : x.p + (Utf8.decode s x.p.toNat).2 - (Utf8.decode s x.p.toNat).2 = x.p := by omega
    simp only [e1]
    rw [if_pos (by omega)]
    have e2 : x.cs + 1 - 1 = x.cs := by omega
    rw [e2]
  · simp
theorem LGd.back (h : LGd s x) : LGd s (backS (nextS s x)) := by
  rw [back_next h]
  exact ⟨h.p1, h.s0, h.s1, h.next.w0, h.next.w1, h.c0, h.c1, h.d1, h.big⟩
theorem LGd.emit (h : LGd s x) : LGd s (emitS x) := by
  have := h.s0; have := h.s1; have := h.c0; have := h.c1
  exact ⟨h.p1, by show 0 ≤ x.p; omega, Int.le_refl _, h.w0, h.w1, by show 0 ≤ x.cs; omega, Int.le_refl _, h.d1, h.big⟩
theorem LGd.skip (h : LGd s x) : LGd s (skipS x) := by
  have := h.s0; have := h.s1; have := h.c0; have := h.c1
  exact ⟨h.p1, by show 0 ≤ x.p; omega, Int.le_refl _, h.w0, h.w1, by show 0 ≤ x.cs; omega, Int.le_refl _, h.d1, h.big⟩
theorem nextR_range (s : ByteArray) (p : Int) : -2147483648 ≤ nextR s p ∧ nextR s p ≤ 2147483647 := by
  unfold nextR
  split
  · have := decode_le s p.toNat; omega
  · omega
theorem nextR_end (h : LGd s x) : nextR s x.p = -1 ↔ x.p = s.size := by
  unfold nextR
  have := h.s0; have := h.s1
  have := h.p1
  split <;> omega
theorem nextS_on (h : LGd s x) (hr : nextR s x.p ≠ -1) : x.p < (nextS s x).p ∧ (nextS s x).st = x.st := by
  have := h.s0; have := h.s1
  unfold nextR at hr
  unfold nextS
  by_cases hp : x.p.toNat < s.size
  · rw [if_pos hp]
    have hf := decode_fits s x.p.toNat hp
    exact ⟨by simp; omega, rfl⟩
  · rw [if_neg hp] at hr
    exact absurd rfl hr
end
/-- The library's tables, in blocks that lie below the lexer's. -/
def TBb (b : Nat) (w : World) : Prop := ∃ w0, TBl w0 ∧ w0.heap.size ≤ b ∧ Below w0.heap.size w0 w
theorem TBb.tbl {b : Nat} {w : World} (h : TBb b w) : TBl w := by
  obtain ⟨w0, h1, _, h3⟩ := h
  exact h1.below h3
theorem TBb.grown {b : Nat} {w w' : World} (h : TBb b w) (hg : w.grownBy w' (some b)) : TBb b w' := by
  obtain ⟨w0, h1, h2, h3⟩ := h
  exact ⟨w0, h1, h2, h3.grown hg h3.size (fun k hk => by injection hk with e; omega)⟩
/-- The lexer in memory, and the tables. -/
structure LX (w : World) (b T : Nat) (pre post : List Value) (s : ByteArray) (err : Value) (x : LSt) : Prop where
  lex : LexAt w b T pre post s err x
  tb : TBb b w
section
variable {w w' w1 w2 : World} {b T : Nat} {pre post : List Value} {s : ByteArray} {err err' : Value} {x y : LSt}
theorem LX.grown (h : LX w b T pre post s err x) (hg : w.grownBy w' (some b)) (hl : LexAt w' b T pre post s err' y) : LX w' b T pre post s err' y := ⟨hl, h.tb.grown hg⟩
theorem LX.out (h : LX w b T pre post s err x) (ho : LexOut w w' b T pre post s err' y) : LX w' b T pre post s err' y := ⟨ho.lex, h.tb.grown ho.grown⟩
theorem LX.below (h : LX w b T pre post s err x) (hb : Below w.heap.size w w') : LX w' b T pre post s err x := ⟨h.lex.below hb, h.tb.grown (grownBy_below (World.grownBy.refl w (some b)) hb)⟩
theorem LX.alloc (h : LX w b T pre post s err x) (o : Obj) : LX (w.alloc o) b T pre post s err x := h.below (below_alloc (Below.refl _ _) _)
theorem LexOut.trans (h : LexOut w w1 b T pre post s err x) (k : LexOut w1 w2 b T pre post s err' y) : LexOut w w2 b T pre post s err' y := ⟨k.lex, h.grown.trans k.grown⟩
theorem LexOut.below (h : LexOut w w1 b T pre post s err x) (hb : Below w1.heap.size w1 w2) : LexOut w w2 b T pre post s err x := ⟨h.lex.below hb, grownBy_below h.grown hb⟩
end
/-- Is the next character among these, and the state behind the question. -/
def acB (s : ByteArray) (x : LSt) (c : ByteArray) : Bool := hasR c (nextR s x.p)
def acS (s : ByteArray) (x : LSt) (c : ByteArray) : LSt := if acB s x c then nextS s x else backS (nextS s x)
theorem LGd.ac {s : ByteArray} {x : LSt} (h : LGd s x) (c : ByteArray) : LGd s (acS s x c) := by
  unfold acS
  split
  · exact h.next
  · exact h.back
set_option maxRecDepth 100000 in
set_option maxHeartbeats 1000000 in
theorem accept_calls (w : World) (b T : Nat) (pre post : List Value) (s : ByteArray) (err : Value) (x : LSt) (c : ByteArray) (r : Bool) (hr : acB s x c = r) (h : LX w b T pre post s err x) (hk : LGd s x) :
    Calls Tryd.prog 38 #[.pointer (some ⟨b, pre.length, none⟩), .string c] w fun e w' => e = .returned (.bool r) ∧ LexOut w w' b T pre post s err (acS s x c) := by
  have HL := Aside0.mk h
  have HK := Aside0.mk hk
  have HR := Aside0.mk hr
  clear h hk hr
  cases r
  · go_enter Tryd.func38, Tryd.ntmps38
    go_wp2_with fail
    refine (next_calls _ b T pre post s err x HL.out.lex HK.out.ok HL.out.tb.tbl).mono ?_
    rintro e w1 ⟨rfl, hO⟩
    have HO := Aside0.mk hO
    clear hO
    go_wp2_with fail
    refine (contains_calls c (nextR s x.p) _).mono ?_
    rintro e w2 ⟨rfl, hb⟩
    have HO2 := Aside0.mk (HO.out.below hb)
    clear hb
    rw [show hasR c (nextR s x.p) = false from HR.out]
    go_wp2_with fail
    refine (rewind_calls _ b T pre post s err _ HO2.out.lex HK.out.next.ok).mono ?_
    rintro e w3 ⟨rfl, hO⟩
    have HO3 := Aside0.mk (HO2.out.trans hO)
    clear hO
    go_wp2
    go_ret
    refine ⟨rfl, ?_⟩
    unfold acS
    rw [HR.out]
    exact HO3.out
  · go_enter Tryd.func38, Tryd.ntmps38
    go_wp2_with fail
    refine (next_calls _ b T pre post s err x HL.out.lex HK.out.ok HL.out.tb.tbl).mono ?_
    rintro e w1 ⟨rfl, hO⟩
    have HO := Aside0.mk hO
    clear hO
    go_wp2_with fail
    refine (contains_calls c (nextR s x.p) _).mono ?_
    rintro e w2 ⟨rfl, hb⟩
    have HO2 := Aside0.mk (HO.out.below hb)
    clear hb
    rw [show hasR c (nextR s x.p) = true from HR.out]
    go_wp2
    go_ret
    refine ⟨rfl, ?_⟩
    unfold acS
    rw [HR.out]
    exact HO2.out
/-- An error of the lexer's. -/
def ErrV (v : Value) : Prop := ∃ t p, v = .iface t p ∧ (t = 72 ∨ t = 75 ∨ t = 66)
def ExpR (r : Bool) (e : Ending) : Prop := ∃ v, e = .returned v ∧ (if r then v = .nilIface else ErrV v)
theorem pos4_calls (w : World) (b T : Nat) (pre post : List Value) (s : ByteArray) (err : Value) (x : LSt) (h : LexAt w b T pre post s err x) :
    Calls Tryd.prog 34 #[.pointer (some ⟨b, pre.length, none⟩)] w fun e w' => e = .returned (posV x) ∧ w'.cell? ⟨b, pre.length, none⟩ = some (.string s) ∧ Aside0 (LexAt w' b T pre post s err x ∧ Below w.heap.size w w') := by
  refine (position_calls w b T pre post s err x h).mono ?_
  rintro e w' ⟨rfl, hB⟩
  exact ⟨rfl, (h.below hB).c0, ⟨h.below hB, hB⟩⟩
set_option maxRecDepth 100000 in
set_option maxHeartbeats 1000000 in
theorem expect_calls (w : World) (b T : Nat) (pre post : List Value) (s : ByteArray) (err : Value) (x : LSt) (c : ByteArray) (h : LX w b T pre post s err x) (hk : LGd s x) :
    Calls Tryd.prog 39 #[.pointer (some ⟨b, pre.length, none⟩), .string c] w fun e w' => ExpR (acB s x c) e ∧ LexOut w w' b T pre post s err (acS s x c) := by
  have HL := Aside0.mk h
  have HK := Aside0.mk hk
  clear h hk
  have HR : Aside0 (∃ r, acB s x c = r) := ⟨_, rfl⟩
  obtain ⟨r, hr⟩ := HR.out
  rw [hr]
  replace HR := Aside0.mk hr
  clear hr
  have hu1 := Tryd.underlying72
  have hu2 := Tryd.underlying54
  cases r
  · go_enter Tryd.func39, Tryd.ntmps39
    go_wp2_with fail
    refine (next_calls _ b T pre post s err x HL.out.lex HK.out.ok HL.out.tb.tbl).mono ?_
    rintro e w1 ⟨rfl, hO⟩
    have HO := Aside0.mk hO
    clear hO
    go_wp2_with fail
    refine (contains_calls c (nextR s x.p) _).mono ?_
    rintro e w2 ⟨rfl, hb⟩
    have HO2 := Aside0.mk (HO.out.below hb)
    clear hb
    rw [show hasR c (nextR s x.p) = false from HR.out]
    go_wp2_with fail
    refine (rewind_calls _ b T pre post s err _ HO2.out.lex HK.out.next.ok).mono ?_
    rintro e w3 ⟨rfl, hO⟩
    have HO3 := Aside0.mk (HO2.out.trans hO)
    clear hO HO HO2
    go_wp2_with fail
    have HS0 : Aside0 (LexAt w3.drew b T pre post s err (backS (nextS s x)) ∧ w.grownBy w3.drew (some b)) := ⟨HO3.out.lex.below (below_drew (Below.refl _ _)), HO3.out.grown.trans (grown_drewN 1 _)⟩
    have k0 := HS0.out.1.c0
    go_region_held3 (fun w' => w'.cell? ⟨b, pre.length, none⟩ = some (.string s) ∧ Aside0 (LexAt w' b T pre post s err (backS (nextS s x)) ∧ w.grownBy w' (some b))) (first | (with_reducible exact ⟨k0, HS0⟩) | (with_reducible exact ⟨k1, HS1⟩)) (first | (go_at_call 34; (with_reducible refine (pos4_calls w3.drew b T pre post s err (backS (nextS s x)) HS0.out.1).mono ?_); rintro e w4 ⟨rfl, k1, hx4⟩; unfold posV; have HS1 : Aside0 (LexAt w4 b T pre post s err (backS (nextS s x)) ∧ w.grownBy w4 (some b)) := ⟨hx4.out.1, grownBy_below HS0.out.2 hx4.out.2⟩))
    all_goals
      go_wp2
      go_ret
      refine ⟨⟨_, rfl, ⟨_, _, rfl, Or.inl rfl⟩⟩, ?_⟩
      unfold acS
      rw [HR.out]
      exact ⟨HS1.out.1, HS1.out.2⟩
  · go_enter Tryd.func39, Tryd.ntmps39
    go_wp2_with fail
    refine (next_calls _ b T pre post s err x HL.out.lex HK.out.ok HL.out.tb.tbl).mono ?_
    rintro e w1 ⟨rfl, hO⟩
    have HO := Aside0.mk hO
    clear hO
    go_wp2_with fail
    refine (contains_calls c (nextR s x.p) _).mono ?_
    rintro e w2 ⟨rfl, hb⟩
    have HO2 := Aside0.mk (HO.out.below hb)
    clear hb
    rw [show hasR c (nextR s x.p) = true from HR.out]
    go_wp2
    go_ret
    refine ⟨⟨_, rfl, rfl⟩, ?_⟩
    unfold acS
    rw [HR.out]
    exact HO2.out
end Go.Proofs.YtlpcbmgleecafaaDoor.Q
