/- The lexer's scanOperator, scanUnquoted and scanQuoted. Condition: the library's tables as it lays them, below the lexer's block. -/
import Derived.Test.YtlpcbmgleecafaaDoorHLexD
set_option linter.unusedVariables false
set_option linter.unusedSimpArgs false
namespace Go.Proofs.YtlpcbmgleecafaaDoor.Q
open Go.RowKit Go.Lib Go.Proofs.YtlpcbmgleecafaaDoorW.PrintWords Go.Proofs.YtlpcbmgleecafaaDoorW.PrintLast Go.Proofs.YtlpcbmgleecafaaDoorW.PrintMore
attribute [local go_sem] max2_int min2_int max_two min_two max_three min_three max_four min_four
section
variable {w W w' : World} {b T : Nat} {pre post : List Value} {s : ByteArray} {err : Value} {x y : LSt}
theorem tok_cells (hO : LexOut (w.alloc (.cells #[.int .i64 0, .string ⟨#[]⟩, .int .i64 0, .int .i64 0, .int .i64 0, .int .i64 0] 56)) W b T pre post s err y) (hb : b < w.heap.size) : W.heap[w.heap.size]? = some (.cells #[.int .i64 0, .string ⟨#[]⟩, .int .i64 0, .int .i64 0, .int .i64 0, .int .i64 0] 56 (0, 0)) :=
  (hO.grown.block w.heap.size (by simp) (by intro e; injection e with e; omega)).trans (heap_alloc_new w _)
theorem tok_done (hO : LexOut (w.alloc (.cells #[.int .i64 0, .string ⟨#[]⟩, .int .i64 0, .int .i64 0, .int .i64 0, .int .i64 0] 56)) W b T pre post s err y) (hb : b < w.heap.size) (v0 v1 v2 v3 v4 v5 : Value) :
    LexOut w ((((((W.setCell ⟨w.heap.size, 0, none⟩ v0).setCell ⟨w.heap.size, 1, none⟩ v1).setCell ⟨w.heap.size, 2, none⟩ v2).setCell ⟨w.heap.size, 3, none⟩ v3).setCell ⟨w.heap.size, 4, none⟩ v4).setCell ⟨w.heap.size, 5, none⟩ v5) b T pre post s err y ∧
    ((((((W.setCell ⟨w.heap.size, 0, none⟩ v0).setCell ⟨w.heap.size, 1, none⟩ v1).setCell ⟨w.heap.size, 2, none⟩ v2).setCell ⟨w.heap.size, 3, none⟩ v3).setCell ⟨w.heap.size, 4, none⟩ v4).setCell ⟨w.heap.size, 5, none⟩ v5).heap[w.heap.size]? = some (.cells #[v0, v1, v2, v3, v4, v5] 56 (0, 0)) := by
  have n5 : ¬ b = w.heap.size := by omega
  have hG : w.grownBy W (some b) := (World.grownBy_alloc w _ (some b)).trans hO.grown
  exact ⟨⟨(((((hO.lex.other n5 0 v0).other n5 1 v1).other n5 2 v2).other n5 3 v3).other n5 4 v4).other n5 5 v5,
    grown_new (grown_new (grown_new (grown_new (grown_new (grown_new hG (Nat.le_refl _) 0 v0) (Nat.le_refl _) 1 v1) (Nat.le_refl _) 2 v2) (Nat.le_refl _) 3 v3) (Nat.le_refl _) 4 v4) (Nat.le_refl _) 5 v5⟩, old_tok (tok_cells hO hb) v0 v1 v2 v3 v4 v5⟩
theorem LX.startZ (h : LX w b T pre post s err x) : LX (w.alloc (.cells #[.int .i64 0, .string ⟨#[]⟩, .int .i64 0, .int .i64 0, .int .i64 0, .int .i64 0] 56)) b T pre post s err x ∧ LexOut (w.alloc (.cells #[.int .i64 0, .string ⟨#[]⟩, .int .i64 0, .int .i64 0, .int .i64 0, .int .i64 0] 56)) (w.alloc (.cells #[.int .i64 0, .string ⟨#[]⟩, .int .i64 0, .int .i64 0, .int .i64 0, .int .i64 0] 56)) b T pre post s err x := ⟨h.alloc _, (h.alloc _).lex, World.grownBy.refl _ _⟩
end
/-- The lexer as named, and a result of zeros in its block. -/
structure TZ (w W : World) (b T : Nat) (pre post : List Value) (s : ByteArray) (err : Value) (y : LSt) : Prop where
  lex : LexAt W b T pre post s err y
  gr : w.grownBy W (some b)
  blk : W.heap[w.heap.size]? = some (.cells #[.int .i64 0, .string ⟨#[]⟩, .int .i64 0, .int .i64 0, .int .i64 0, .int .i64 0] 56 (0, 0))
section
variable {w W w' : World} {b T : Nat} {pre post : List Value} {s : ByteArray} {err : Value} {x y : LSt}
theorem TZ.of (hO : LexOut (w.alloc (.cells #[.int .i64 0, .string ⟨#[]⟩, .int .i64 0, .int .i64 0, .int .i64 0, .int .i64 0] 56)) W b T pre post s err y) (hb : b < w.heap.size) : TZ w W b T pre post s err y :=
  ⟨hO.lex, (World.grownBy_alloc w _ (some b)).trans hO.grown, tok_cells hO hb⟩
theorem TZ.below (h : TZ w W b T pre post s err y) (hb : Below W.heap.size W w') : TZ w w' b T pre post s err y :=
  ⟨h.lex.below hb, grownBy_below h.gr hb, (hb.block _ (Array.getElem?_eq_some_iff.1 h.blk).1).trans h.blk⟩
theorem TZ.set6 (h : TZ w W b T pre post s err y) (hb : b < w.heap.size) (v0 v1 v2 v3 v4 v5 : Value) :
    LexOut w ((((((W.setCell ⟨w.heap.size, 0, none⟩ v0).setCell ⟨w.heap.size, 1, none⟩ v1).setCell ⟨w.heap.size, 2, none⟩ v2).setCell ⟨w.heap.size, 3, none⟩ v3).setCell ⟨w.heap.size, 4, none⟩ v4).setCell ⟨w.heap.size, 5, none⟩ v5) b T pre post s err y ∧
    ((((((W.setCell ⟨w.heap.size, 0, none⟩ v0).setCell ⟨w.heap.size, 1, none⟩ v1).setCell ⟨w.heap.size, 2, none⟩ v2).setCell ⟨w.heap.size, 3, none⟩ v3).setCell ⟨w.heap.size, 4, none⟩ v4).setCell ⟨w.heap.size, 5, none⟩ v5).heap[w.heap.size]? = some (.cells #[v0, v1, v2, v3, v4, v5] 56 (0, 0)) := by
  have n5 : ¬ b = w.heap.size := by omega
  exact ⟨⟨(((((h.lex.other n5 0 v0).other n5 1 v1).other n5 2 v2).other n5 3 v3).other n5 4 v4).other n5 5 v5,
    grown_new (grown_new (grown_new (grown_new (grown_new (grown_new h.gr (Nat.le_refl _) 0 v0) (Nat.le_refl _) 1 v1) (Nat.le_refl _) 2 v2) (Nat.le_refl _) 3 v3) (Nat.le_refl _) 4 v4) (Nat.le_refl _) 5 v5⟩, old_tok h.blk v0 v1 v2 v3 v4 v5⟩
theorem TZ.zero6 (h : TZ w W b T pre post s err y) (hb : b < w.heap.size) :
    TZ w ((((((W.setCell ⟨w.heap.size, 0, none⟩ (.int .i64 0)).setCell ⟨w.heap.size, 1, none⟩ (.string ⟨#[]⟩)).setCell ⟨w.heap.size, 2, none⟩ (.int .i64 0)).setCell ⟨w.heap.size, 3, none⟩ (.int .i64 0)).setCell ⟨w.heap.size, 4, none⟩ (.int .i64 0)).setCell ⟨w.heap.size, 5, none⟩ (.int .i64 0)) b T pre post s err y :=
  ⟨(h.set6 hb _ _ _ _ _ _).1.lex, (h.set6 hb _ _ _ _ _ _).1.grown, (h.set6 hb _ _ _ _ _ _).2⟩
theorem TZ.facts (h : TZ w W b T pre post s err y) : W.cell? ⟨b, pre.length, none⟩ = some (.string s) ∧ W.cell? ⟨w.heap.size, 0, none⟩ = some (.int .i64 0) ∧ W.cell? ⟨w.heap.size, 1, none⟩ = some (.string ⟨#[]⟩) ∧ W.cell? ⟨w.heap.size, 2, none⟩ = some (.int .i64 0) ∧ W.cell? ⟨w.heap.size, 3, none⟩ = some (.int .i64 0) ∧ W.cell? ⟨w.heap.size, 4, none⟩ = some (.int .i64 0) ∧ W.cell? ⟨w.heap.size, 5, none⟩ = some (.int .i64 0) ∧ (∀ j, W.frozen? ⟨w.heap.size, j, none⟩ = false) ∧ Aside0 (TZ w W b T pre post s err y) := by
  obtain ⟨hc, hf⟩ := cells_in h.blk
  exact ⟨h.lex.c0, hc 0, hc 1, hc 2, hc 3, hc 4, hc 5, hf, ⟨h⟩⟩
theorem pos5_calls (w W : World) (b T : Nat) (pre post : List Value) (s : ByteArray) (err : Value) (y : LSt) (h : TZ w W b T pre post s err y) :
    Calls Tryd.prog 34 #[.pointer (some ⟨b, pre.length, none⟩)] W fun e w' => e = .returned (posV y) ∧ Aside0 (TZ w w' b T pre post s err y) := by
  refine (position_calls W b T pre post s err y h.lex).mono ?_
  rintro e w' ⟨rfl, hB⟩
  exact ⟨rfl, ⟨h.below hB⟩⟩
end
def tok0 : Value := .agg #[.int .i64 0, .string ⟨#[]⟩, .int .i64 0, .int .i64 0, .int .i64 0, .int .i64 0]
/-- What a scanning function hands back: a token of a kind, or an error. -/
def resE (o : Option Int) (s : ByteArray) (y : LSt) (e : Ending) : Prop := match o with
  | some k => e = .returned (.tuple #[tokV k (s.extract y.st.toNat y.p.toNat) y, .nilIface])
  | none => ∃ ev, e = .returned (.tuple #[tok0, ev]) ∧ ErrV ev
def resS (o : Option Int) (y : LSt) : LSt := match o with
  | some _ => emitS y
  | none => y
def opF (s : ByteArray) (x : LSt) : Option Int × LSt :=
  if acB s x ⟨#[33]⟩ then
    if acB s (acS s x ⟨#[33]⟩) ⟨#[61]⟩ then (some 5, acS s (acS s x ⟨#[33]⟩) ⟨#[61]⟩)
    else if acB s (acS s (acS s x ⟨#[33]⟩) ⟨#[61]⟩) ⟨#[126]⟩ then (some 7, acS s (acS s (acS s x ⟨#[33]⟩) ⟨#[61]⟩) ⟨#[126]⟩) else (none, acS s (acS s (acS s x ⟨#[33]⟩) ⟨#[61]⟩) ⟨#[126]⟩)
  else if acB s (acS s x ⟨#[33]⟩) ⟨#[61]⟩ then
    if acB s (acS s (acS s x ⟨#[33]⟩) ⟨#[61]⟩) ⟨#[126]⟩ then (some 6, acS s (acS s (acS s x ⟨#[33]⟩) ⟨#[61]⟩) ⟨#[126]⟩) else (some 4, acS s (acS s (acS s x ⟨#[33]⟩) ⟨#[61]⟩) ⟨#[126]⟩)
  else (none, acS s (acS s x ⟨#[33]⟩) ⟨#[61]⟩)
theorem accept2_calls (w : World) (b T : Nat) (pre post : List Value) (s : ByteArray) (err : Value) (x y : LSt) (c : ByteArray) (r : Bool) (hr : acB s x c = r) (hy : acS s x c = y) (h : LX w b T pre post s err x) (hk : LGd s x) :
    Calls Tryd.prog 38 #[.pointer (some ⟨b, pre.length, none⟩), .string c] w fun e w' => e = .returned (.bool r) ∧ LexOut w w' b T pre post s err y := by
  subst hy
  exact accept_calls w b T pre post s err x c r hr h hk
set_option maxRecDepth 100000 in
set_option maxHeartbeats 4000000 in
theorem scanOperator_calls (w : World) (b T : Nat) (pre post : List Value) (s : ByteArray) (err : Value) (x : LSt) (h : LX w b T pre post s err x) (hk : LGd s x) :
    Calls Tryd.prog 28 #[.pointer (some ⟨b, pre.length, none⟩)] w fun e w' => resE (opF s x).1 s (opF s x).2 e ∧ LexOut w w' b T pre post s err (resS (opF s x).1 (opF s x).2) := by
  have HL := Aside0.mk h
  have HK1 := Aside0.mk hk
  have HL1 := Aside0.mk h.startZ
  have HK2 := Aside0.mk (hk.ac ⟨#[33]⟩)
  have HK3 := Aside0.mk (HK2.out.ac ⟨#[61]⟩)
  have HK4 := Aside0.mk (HK3.out.ac ⟨#[126]⟩)
  clear h hk
  have hu0 := Tryd.underlying56
  have hu1 := Tryd.underlying72
  have hu2 := Tryd.underlying54
  unfold opF
  obtain ⟨y1, hy1⟩ : ∃ y, acS s x ⟨#[33]⟩ = y := ⟨_, rfl⟩
  rw [hy1] at HK2 HK3 HK4 ⊢
  obtain ⟨y2, hy2⟩ : ∃ y, acS s y1 ⟨#[61]⟩ = y := ⟨_, rfl⟩
  rw [hy2] at HK3 HK4 ⊢
  obtain ⟨y3, hy3⟩ : ∃ y, acS s y2 ⟨#[126]⟩ = y := ⟨_, rfl⟩
  rw [hy3] at HK4 ⊢
  have HY1 := Aside0.mk hy1
  have HY2 := Aside0.mk hy2
  have HY3 := Aside0.mk hy3
  clear hy1 hy2 hy3
  cases hq1 : acB s x ⟨#[33]⟩ <;> cases hq2 : acB s y1 ⟨#[61]⟩ <;> cases hq3 : acB s y2 ⟨#[126]⟩
  all_goals
    have HQ1 := Aside0.mk hq1
    have HQ2 := Aside0.mk hq2
    have HQ3 := Aside0.mk hq3
    clear hq1 hq2 hq3
    simp only [Bool.false_eq_true, if_true, if_false]
  · skip
    go_enter Tryd.func28, Tryd.ntmps28
    go_wp2_with fail
    refine (accept2_calls _ b T pre post s err _ _ _ _ HQ1.out HY1.out HL1.out.1 HK1.out).mono ?_
    rintro e W ⟨rfl, hO⟩
    have HO := Aside0.mk (HL1.out.2.trans hO)
    have HL2 := Aside0.mk (And.intro (HL1.out.1.out hO) HO.out)
    clear hO
    go_wp2_with fail
    refine (accept2_calls _ b T pre post s err _ _ _ _ HQ2.out HY2.out HL2.out.1 HK2.out).mono ?_
    rintro e W ⟨rfl, hO⟩
    have HO := Aside0.mk (HL2.out.2.trans hO)
    have HL3 := Aside0.mk (And.intro (HL2.out.1.out hO) HO.out)
    clear hO
    go_wp2_with fail
    have hlt := HL.out.lex.lt
    have HT0 : Aside0 (TZ w W.drew b T pre post s err y2) := ⟨(TZ.of HO.out HL.out.lex.lt).below (below_drew (Below.refl _ _))⟩
    clear HL1 HO
    go_region_held3 (fun W => W.cell? ⟨b, pre.length, none⟩ = some (.string s) ∧ W.cell? ⟨w.heap.size, 0, none⟩ = some (.int .i64 0) ∧ W.cell? ⟨w.heap.size, 1, none⟩ = some (.string ⟨#[]⟩) ∧ W.cell? ⟨w.heap.size, 2, none⟩ = some (.int .i64 0) ∧ W.cell? ⟨w.heap.size, 3, none⟩ = some (.int .i64 0) ∧ W.cell? ⟨w.heap.size, 4, none⟩ = some (.int .i64 0) ∧ W.cell? ⟨w.heap.size, 5, none⟩ = some (.int .i64 0) ∧ (∀ j, W.frozen? ⟨w.heap.size, j, none⟩ = false) ∧ Aside0 (TZ w W b T pre post s err y2)) (first | (with_reducible exact HT0.out.facts) | (with_reducible exact HT1.out.facts) | (with_reducible exact (HT1.out.zero6 hlt).facts)) (first | (go_at_call 34; (with_reducible refine (pos5_calls w W.drew b T pre post s err y2 HT0.out).mono ?_); rintro e w4 ⟨rfl, HT1⟩; unfold posV))
    go_wp2
    have HT2 := HT1.out.zero6 hlt
    obtain ⟨_, r0, r1, r2, r3, r4, r5, _, _⟩ := HT2.facts
    exact bodyPost_ret (v := .tuple #[tok0, .iface 72 (.agg #[.int .i64 y2.st, .int .i64 y2.p, .int .i64 y2.cl, .int .i64 y2.cs, .string s, .string ⟨#[33, 61]⟩])]) (by simp [results, Tryd.results28, go_sem, tok0, r0, r1, r2, r3, r4, r5]) rfl ⟨⟨_, rfl, ⟨_, _, rfl, Or.inl rfl⟩⟩, ⟨HT2.lex, HT2.gr⟩⟩
  · skip
    go_enter Tryd.func28, Tryd.ntmps28
    go_wp2_with fail
    refine (accept2_calls _ b T pre post s err _ _ _ _ HQ1.out HY1.out HL1.out.1 HK1.out).mono ?_
    rintro e W ⟨rfl, hO⟩
    have HO := Aside0.mk (HL1.out.2.trans hO)
    have HL2 := Aside0.mk (And.intro (HL1.out.1.out hO) HO.out)
    clear hO
    go_wp2_with fail
    refine (accept2_calls _ b T pre post s err _ _ _ _ HQ2.out HY2.out HL2.out.1 HK2.out).mono ?_
    rintro e W ⟨rfl, hO⟩
    have HO := Aside0.mk (HL2.out.2.trans hO)
    have HL3 := Aside0.mk (And.intro (HL2.out.1.out hO) HO.out)
    clear hO
    go_wp2_with fail
    have hlt := HL.out.lex.lt
    have HT0 : Aside0 (TZ w W.drew b T pre post s err y2) := ⟨(TZ.of HO.out HL.out.lex.lt).below (below_drew (Below.refl _ _))⟩
    clear HL1 HO
    go_region_held3 (fun W => W.cell? ⟨b, pre.length, none⟩ = some (.string s) ∧ W.cell? ⟨w.heap.size, 0, none⟩ = some (.int .i64 0) ∧ W.cell? ⟨w.heap.size, 1, none⟩ = some (.string ⟨#[]⟩) ∧ W.cell? ⟨w.heap.size, 2, none⟩ = some (.int .i64 0) ∧ W.cell? ⟨w.heap.size, 3, none⟩ = some (.int .i64 0) ∧ W.cell? ⟨w.heap.size, 4, none⟩ = some (.int .i64 0) ∧ W.cell? ⟨w.heap.size, 5, none⟩ = some (.int .i64 0) ∧ (∀ j, W.frozen? ⟨w.heap.size, j, none⟩ = false) ∧ Aside0 (TZ w W b T pre post s err y2)) (first | (with_reducible exact HT0.out.facts) | (with_reducible exact HT1.out.facts) | (with_reducible exact (HT1.out.zero6 hlt).facts)) (first | (go_at_call 34; (with_reducible refine (pos5_calls w W.drew b T pre post s err y2 HT0.out).mono ?_); rintro e w4 ⟨rfl, HT1⟩; unfold posV))
    go_wp2
    have HT2 := HT1.out.zero6 hlt
    obtain ⟨_, r0, r1, r2, r3, r4, r5, _, _⟩ := HT2.facts
    exact bodyPost_ret (v := .tuple #[tok0, .iface 72 (.agg #[.int .i64 y2.st, .int .i64 y2.p, .int .i64 y2.cl, .int .i64 y2.cs, .string s, .string ⟨#[33, 61]⟩])]) (by simp [results, Tryd.results28, go_sem, tok0, r0, r1, r2, r3, r4, r5]) rfl ⟨⟨_, rfl, ⟨_, _, rfl, Or.inl rfl⟩⟩, ⟨HT2.lex, HT2.gr⟩⟩
  · skip
    go_enter Tryd.func28, Tryd.ntmps28
    go_wp2_with fail
    refine (accept2_calls _ b T pre post s err _ _ _ _ HQ1.out HY1.out HL1.out.1 HK1.out).mono ?_
    rintro e W ⟨rfl, hO⟩
    have HO := Aside0.mk (HL1.out.2.trans hO)
    have HL2 := Aside0.mk (And.intro (HL1.out.1.out hO) HO.out)
    clear hO
    go_wp2_with fail
    refine (accept2_calls _ b T pre post s err _ _ _ _ HQ2.out HY2.out HL2.out.1 HK2.out).mono ?_
    rintro e W ⟨rfl, hO⟩
    have HO := Aside0.mk (HL2.out.2.trans hO)
    have HL3 := Aside0.mk (And.intro (HL2.out.1.out hO) HO.out)
    clear hO
    go_wp2_with fail
    refine (accept2_calls _ b T pre post s err _ _ _ _ HQ3.out HY3.out HL3.out.1 HK3.out).mono ?_
    rintro e W ⟨rfl, hO⟩
    have HO := Aside0.mk (HL3.out.2.trans hO)
    have HL4 := Aside0.mk (And.intro (HL3.out.1.out hO) HO.out)
    clear hO
    go_wp2_with fail
    refine (emit_calls _ b T pre post s err _ 4 HL4.out.1.lex HK4.out.ok).mono ?_
    rintro e W ⟨rfl, hO⟩
    have HO := Aside0.mk (HL4.out.2.trans hO)
    clear hO
    unfold tokV
    have hbz := tok_cells HO.out HL.out.lex.lt
    obtain ⟨hcz, hfz⟩ := cells_in hbz
    have z0 : W.cell? ⟨w.heap.size, 0, none⟩ = some (.int .i64 0) := hcz 0
    have z1 : W.cell? ⟨w.heap.size, 1, none⟩ = some (.string ⟨#[]⟩) := hcz 1
    have z2 : W.cell? ⟨w.heap.size, 2, none⟩ = some (.int .i64 0) := hcz 2
    have z3 : W.cell? ⟨w.heap.size, 3, none⟩ = some (.int .i64 0) := hcz 3
    have z4 : W.cell? ⟨w.heap.size, 4, none⟩ = some (.int .i64 0) := hcz 4
    have z5 : W.cell? ⟨w.heap.size, 5, none⟩ = some (.int .i64 0) := hcz 5
    clear hbz hcz
    have H8 := Aside0.mk (tok_done HO.out HL.out.lex.lt (.int .i64 4) (.string (s.extract y3.st.toNat y3.p.toNat)) (.int .i64 y3.st) (.int .i64 y3.p) (.int .i64 y3.cl) (.int .i64 y3.cs))
    go_wp2
    generalize ((((((W.setCell ⟨w.heap.size, 0, none⟩ (.int .i64 4)).setCell ⟨w.heap.size, 1, none⟩ (.string (s.extract y3.st.toNat y3.p.toNat))).setCell ⟨w.heap.size, 2, none⟩ (.int .i64 y3.st)).setCell ⟨w.heap.size, 3, none⟩ (.int .i64 y3.p)).setCell ⟨w.heap.size, 4, none⟩ (.int .i64 y3.cl)).setCell ⟨w.heap.size, 5, none⟩ (.int .i64 y3.cs)) = W6 at H8 ⊢
    obtain ⟨hc8, _⟩ := cells_in H8.out.2
    have r0 := hc8 0
    have r1 := hc8 1
    have r2 := hc8 2
    have r3 := hc8 3
    have r4 := hc8 4
    have r5 := hc8 5
    simp only [List.getElem?_toArray, List.getElem?_cons_zero, List.getElem?_cons_succ] at r0 r1 r2 r3 r4 r5
    exact bodyPost_ret (v := .tuple #[tokV 4 (s.extract y3.st.toNat y3.p.toNat) y3, .nilIface]) (by simp [results, Tryd.results28, go_sem, tokV, r0, r1, r2, r3, r4, r5]) rfl ⟨rfl, H8.out.1⟩
  · skip
    go_enter Tryd.func28, Tryd.ntmps28
    go_wp2_with fail
    refine (accept2_calls _ b T pre post s err _ _ _ _ HQ1.out HY1.out HL1.out.1 HK1.out).mono ?_
    rintro e W ⟨rfl, hO⟩
    have HO := Aside0.mk (HL1.out.2.trans hO)
    have HL2 := Aside0.mk (And.intro (HL1.out.1.out hO) HO.out)
    clear hO
    go_wp2_with fail
    refine (accept2_calls _ b T pre post s err _ _ _ _ HQ2.out HY2.out HL2.out.1 HK2.out).mono ?_
    rintro e W ⟨rfl, hO⟩
    have HO := Aside0.mk (HL2.out.2.trans hO)
    have HL3 := Aside0.mk (And.intro (HL2.out.1.out hO) HO.out)
    clear hO
    go_wp2_with fail
    refine (accept2_calls _ b T pre post s err _ _ _ _ HQ3.out HY3.out HL3.out.1 HK3.out).mono ?_
    rintro e W ⟨rfl, hO⟩
    have HO := Aside0.mk (HL3.out.2.trans hO)
    have HL4 := Aside0.mk (And.intro (HL3.out.1.out hO) HO.out)
    clear hO
    go_wp2_with fail
    refine (emit_calls _ b T pre post s err _ 6 HL4.out.1.lex HK4.out.ok).mono ?_
    rintro e W ⟨rfl, hO⟩
    have HO := Aside0.mk (HL4.out.2.trans hO)
    clear hO
    unfold tokV
    have hbz := tok_cells HO.out HL.out.lex.lt
    obtain ⟨hcz, hfz⟩ := cells_in hbz
    have z0 : W.cell? ⟨w.heap.size, 0, none⟩ = some (.int .i64 0) := hcz 0
    have z1 : W.cell? ⟨w.heap.size, 1, none⟩ = some (.string ⟨#[]⟩) := hcz 1
    have z2 : W.cell? ⟨w.heap.size, 2, none⟩ = some (.int .i64 0) := hcz 2
    have z3 : W.cell? ⟨w.heap.size, 3, none⟩ = some (.int .i64 0) := hcz 3
    have z4 : W.cell? ⟨w.heap.size, 4, none⟩ = some (.int .i64 0) := hcz 4
    have z5 : W.cell? ⟨w.heap.size, 5, none⟩ = some (.int .i64 0) := hcz 5
    clear hbz hcz
    have H8 := Aside0.mk (tok_done HO.out HL.out.lex.lt (.int .i64 6) (.string (s.extract y3.st.toNat y3.p.toNat)) (.int .i64 y3.st) (.int .i64 y3.p) (.int .i64 y3.cl) (.int .i64 y3.cs))
    go_wp2
    generalize ((((((W.setCell ⟨w.heap.size, 0, none⟩ (.int .i64 6)).setCell ⟨w.heap.size, 1, none⟩ (.string (s.extract y3.st.toNat y3.p.toNat))).setCell ⟨w.heap.size, 2, none⟩ (.int .i64 y3.st)).setCell ⟨w.heap.size, 3, none⟩ (.int .i64 y3.p)).setCell ⟨w.heap.size, 4, none⟩ (.int .i64 y3.cl)).setCell ⟨w.heap.size, 5, none⟩ (.int .i64 y3.cs)) = W6 at H8 ⊢
    obtain ⟨hc8, _⟩ := cells_in H8.out.2
    have r0 := hc8 0
    have r1 := hc8 1
    have r2 := hc8 2
    have r3 := hc8 3
    have r4 := hc8 4
    have r5 := hc8 5
    simp only [List.getElem?_toArray, List.getElem?_cons_zero, List.getElem?_cons_succ] at r0 r1 r2 r3 r4 r5
    exact bodyPost_ret (v := .tuple #[tokV 6 (s.extract y3.st.toNat y3.p.toNat) y3, .nilIface]) (by simp [results, Tryd.results28, go_sem, tokV, r0, r1, r2, r3, r4, r5]) rfl ⟨rfl, H8.out.1⟩
  · skip
    go_enter Tryd.func28, Tryd.ntmps28
    go_wp2_with fail
    refine (accept2_calls _ b T pre post s err _ _ _ _ HQ1.out HY1.out HL1.out.1 HK1.out).mono ?_
    rintro e W ⟨rfl, hO⟩
    have HO := Aside0.mk (HL1.out.2.trans hO)
    have HL2 := Aside0.mk (And.intro (HL1.out.1.out hO) HO.out)
    clear hO
    go_wp2_with fail
    refine (accept2_calls _ b T pre post s err _ _ _ _ HQ2.out HY2.out HL2.out.1 HK2.out).mono ?_
    rintro e W ⟨rfl, hO⟩
    have HO := Aside0.mk (HL2.out.2.trans hO)
    have HL3 := Aside0.mk (And.intro (HL2.out.1.out hO) HO.out)
    clear hO
    go_wp2_with fail
    refine (accept2_calls _ b T pre post s err _ _ _ _ HQ3.out HY3.out HL3.out.1 HK3.out).mono ?_
    rintro e W ⟨rfl, hO⟩
    have HO := Aside0.mk (HL3.out.2.trans hO)
    have HL4 := Aside0.mk (And.intro (HL3.out.1.out hO) HO.out)
    clear hO
    go_wp2_with fail
    have hlt := HL.out.lex.lt
    have HT0 : Aside0 (TZ w W.drew b T pre post s err y3) := ⟨(TZ.of HO.out HL.out.lex.lt).below (below_drew (Below.refl _ _))⟩
    clear HL1 HO
    go_region_held3 (fun W => W.cell? ⟨b, pre.length, none⟩ = some (.string s) ∧ W.cell? ⟨w.heap.size, 0, none⟩ = some (.int .i64 0) ∧ W.cell? ⟨w.heap.size, 1, none⟩ = some (.string ⟨#[]⟩) ∧ W.cell? ⟨w.heap.size, 2, none⟩ = some (.int .i64 0) ∧ W.cell? ⟨w.heap.size, 3, none⟩ = some (.int .i64 0) ∧ W.cell? ⟨w.heap.size, 4, none⟩ = some (.int .i64 0) ∧ W.cell? ⟨w.heap.size, 5, none⟩ = some (.int .i64 0) ∧ (∀ j, W.frozen? ⟨w.heap.size, j, none⟩ = false) ∧ Aside0 (TZ w W b T pre post s err y3)) (first | (with_reducible exact HT0.out.facts) | (with_reducible exact HT1.out.facts) | (with_reducible exact (HT1.out.zero6 hlt).facts)) (first | (go_at_call 34; (with_reducible refine (pos5_calls w W.drew b T pre post s err y3 HT0.out).mono ?_); rintro e w4 ⟨rfl, HT1⟩; unfold posV))
    go_wp2
    have HT2 := HT1.out.zero6 hlt
    obtain ⟨_, r0, r1, r2, r3, r4, r5, _, _⟩ := HT2.facts
    exact bodyPost_ret (v := .tuple #[tok0, .iface 72 (.agg #[.int .i64 y3.st, .int .i64 y3.p, .int .i64 y3.cl, .int .i64 y3.cs, .string s, .string ⟨#[61, 126]⟩])]) (by simp [results, Tryd.results28, go_sem, tok0, r0, r1, r2, r3, r4, r5]) rfl ⟨⟨_, rfl, ⟨_, _, rfl, Or.inl rfl⟩⟩, ⟨HT2.lex, HT2.gr⟩⟩
  · skip
    go_enter Tryd.func28, Tryd.ntmps28
    go_wp2_with fail
    refine (accept2_calls _ b T pre post s err _ _ _ _ HQ1.out HY1.out HL1.out.1 HK1.out).mono ?_
    rintro e W ⟨rfl, hO⟩
    have HO := Aside0.mk (HL1.out.2.trans hO)
    have HL2 := Aside0.mk (And.intro (HL1.out.1.out hO) HO.out)
    clear hO
    go_wp2_with fail
    refine (accept2_calls _ b T pre post s err _ _ _ _ HQ2.out HY2.out HL2.out.1 HK2.out).mono ?_
    rintro e W ⟨rfl, hO⟩
    have HO := Aside0.mk (HL2.out.2.trans hO)
    have HL3 := Aside0.mk (And.intro (HL2.out.1.out hO) HO.out)
    clear hO
    go_wp2_with fail
    refine (accept2_calls _ b T pre post s err _ _ _ _ HQ3.out HY3.out HL3.out.1 HK3.out).mono ?_
    rintro e W ⟨rfl, hO⟩
    have HO := Aside0.mk (HL3.out.2.trans hO)
    have HL4 := Aside0.mk (And.intro (HL3.out.1.out hO) HO.out)
    clear hO
    go_wp2_with fail
    refine (emit_calls _ b T pre post s err _ 7 HL4.out.1.lex HK4.out.ok).mono ?_
    rintro e W ⟨rfl, hO⟩
    have HO := Aside0.mk (HL4.out.2.trans hO)
    clear hO
    unfold tokV
    have hbz := tok_cells HO.out HL.out.lex.lt
    obtain ⟨hcz, hfz⟩ := cells_in hbz
    have z0 : W.cell? ⟨w.heap.size, 0, none⟩ = some (.int .i64 0) := hcz 0
    have z1 : W.cell? ⟨w.heap.size, 1, none⟩ = some (.string ⟨#[]⟩) := hcz 1
    have z2 : W.cell? ⟨w.heap.size, 2, none⟩ = some (.int .i64 0) := hcz 2
    have z3 : W.cell? ⟨w.heap.size, 3, none⟩ = some (.int .i64 0) := hcz 3
    have z4 : W.cell? ⟨w.heap.size, 4, none⟩ = some (.int .i64 0) := hcz 4
    have z5 : W.cell? ⟨w.heap.size, 5, none⟩ = some (.int .i64 0) := hcz 5
    clear hbz hcz
    have H8 := Aside0.mk (tok_done HO.out HL.out.lex.lt (.int .i64 7) (.string (s.extract y3.st.toNat y3.p.toNat)) (.int .i64 y3.st) (.int .i64 y3.p) (.int .i64 y3.cl) (.int .i64 y3.cs))
    go_wp2
    generalize ((((((W.setCell ⟨w.heap.size, 0, none⟩ (.int .i64 7)).setCell ⟨w.heap.size, 1, none⟩ (.string (s.extract y3.st.toNat y3.p.toNat))).setCell ⟨w.heap.size, 2, none⟩ (.int .i64 y3.st)).setCell ⟨w.heap.size, 3, none⟩ (.int .i64 y3.p)).setCell ⟨w.heap.size, 4, none⟩ (.int .i64 y3.cl)).setCell ⟨w.heap.size, 5, none⟩ (.int .i64 y3.cs)) = W6 at H8 ⊢
    obtain ⟨hc8, _⟩ := cells_in H8.out.2
    have r0 := hc8 0
    have r1 := hc8 1
    have r2 := hc8 2
    have r3 := hc8 3
    have r4 := hc8 4
    have r5 := hc8 5
    simp only [List.getElem?_toArray, List.getElem?_cons_zero, List.getElem?_cons_succ] at r0 r1 r2 r3 r4 r5
    exact bodyPost_ret (v := .tuple #[tokV 7 (s.extract y3.st.toNat y3.p.toNat) y3, .nilIface]) (by simp [results, Tryd.results28, go_sem, tokV, r0, r1, r2, r3, r4, r5]) rfl ⟨rfl, H8.out.1⟩
  · skip
    go_enter Tryd.func28, Tryd.ntmps28
    go_wp2_with fail
    refine (accept2_calls _ b T pre post s err _ _ _ _ HQ1.out HY1.out HL1.out.1 HK1.out).mono ?_
    rintro e W ⟨rfl, hO⟩
    have HO := Aside0.mk (HL1.out.2.trans hO)
    have HL2 := Aside0.mk (And.intro (HL1.out.1.out hO) HO.out)
    clear hO
    go_wp2_with fail
    refine (accept2_calls _ b T pre post s err _ _ _ _ HQ2.out HY2.out HL2.out.1 HK2.out).mono ?_
    rintro e W ⟨rfl, hO⟩
    have HO := Aside0.mk (HL2.out.2.trans hO)
    have HL3 := Aside0.mk (And.intro (HL2.out.1.out hO) HO.out)
    clear hO
    go_wp2_with fail
    refine (emit_calls _ b T pre post s err _ 5 HL3.out.1.lex HK3.out.ok).mono ?_
    rintro e W ⟨rfl, hO⟩
    have HO := Aside0.mk (HL3.out.2.trans hO)
    clear hO
    unfold tokV
    have hbz := tok_cells HO.out HL.out.lex.lt
    obtain ⟨hcz, hfz⟩ := cells_in hbz
    have z0 : W.cell? ⟨w.heap.size, 0, none⟩ = some (.int .i64 0) := hcz 0
    have z1 : W.cell? ⟨w.heap.size, 1, none⟩ = some (.string ⟨#[]⟩) := hcz 1
    have z2 : W.cell? ⟨w.heap.size, 2, none⟩ = some (.int .i64 0) := hcz 2
    have z3 : W.cell? ⟨w.heap.size, 3, none⟩ = some (.int .i64 0) := hcz 3
    have z4 : W.cell? ⟨w.heap.size, 4, none⟩ = some (.int .i64 0) := hcz 4
    have z5 : W.cell? ⟨w.heap.size, 5, none⟩ = some (.int .i64 0) := hcz 5
    clear hbz hcz
    have H8 := Aside0.mk (tok_done HO.out HL.out.lex.lt (.int .i64 5) (.string (s.extract y2.st.toNat y2.p.toNat)) (.int .i64 y2.st) (.int .i64 y2.p) (.int .i64 y2.cl) (.int .i64 y2.cs))
    go_wp2
    generalize ((((((W.setCell ⟨w.heap.size, 0, none⟩ (.int .i64 5)).setCell ⟨w.heap.size, 1, none⟩ (.string (s.extract y2.st.toNat y2.p.toNat))).setCell ⟨w.heap.size, 2, none⟩ (.int .i64 y2.st)).setCell ⟨w.heap.size, 3, none⟩ (.int .i64 y2.p)).setCell ⟨w.heap.size, 4, none⟩ (.int .i64 y2.cl)).setCell ⟨w.heap.size, 5, none⟩ (.int .i64 y2.cs)) = W6 at H8 ⊢
    obtain ⟨hc8, _⟩ := cells_in H8.out.2
    have r0 := hc8 0
    have r1 := hc8 1
    have r2 := hc8 2
    have r3 := hc8 3
    have r4 := hc8 4
    have r5 := hc8 5
    simp only [List.getElem?_toArray, List.getElem?_cons_zero, List.getElem?_cons_succ] at r0 r1 r2 r3 r4 r5
    exact bodyPost_ret (v := .tuple #[tokV 5 (s.extract y2.st.toNat y2.p.toNat) y2, .nilIface]) (by simp [results, Tryd.results28, go_sem, tokV, r0, r1, r2, r3, r4, r5]) rfl ⟨rfl, H8.out.1⟩
  · skip
    go_enter Tryd.func28, Tryd.ntmps28
    go_wp2_with fail
    refine (accept2_calls _ b T pre post s err _ _ _ _ HQ1.out HY1.out HL1.out.1 HK1.out).mono ?_
    rintro e W ⟨rfl, hO⟩
    have HO := Aside0.mk (HL1.out.2.trans hO)
    have HL2 := Aside0.mk (And.intro (HL1.out.1.out hO) HO.out)
    clear hO
    go_wp2_with fail
    refine (accept2_calls _ b T pre post s err _ _ _ _ HQ2.out HY2.out HL2.out.1 HK2.out).mono ?_
    rintro e W ⟨rfl, hO⟩
    have HO := Aside0.mk (HL2.out.2.trans hO)
    have HL3 := Aside0.mk (And.intro (HL2.out.1.out hO) HO.out)
    clear hO
    go_wp2_with fail
    refine (emit_calls _ b T pre post s err _ 5 HL3.out.1.lex HK3.out.ok).mono ?_
    rintro e W ⟨rfl, hO⟩
    have HO := Aside0.mk (HL3.out.2.trans hO)
    clear hO
    unfold tokV
    have hbz := tok_cells HO.out HL.out.lex.lt
    obtain ⟨hcz, hfz⟩ := cells_in hbz
    have z0 : W.cell? ⟨w.heap.size, 0, none⟩ = some (.int .i64 0) := hcz 0
    have z1 : W.cell? ⟨w.heap.size, 1, none⟩ = some (.string ⟨#[]⟩) := hcz 1
    have z2 : W.cell? ⟨w.heap.size, 2, none⟩ = some (.int .i64 0) := hcz 2
    have z3 : W.cell? ⟨w.heap.size, 3, none⟩ = some (.int .i64 0) := hcz 3
    have z4 : W.cell? ⟨w.heap.size, 4, none⟩ = some (.int .i64 0) := hcz 4
    have z5 : W.cell? ⟨w.heap.size, 5, none⟩ = some (.int .i64 0) := hcz 5
    clear hbz hcz
    have H8 := Aside0.mk (tok_done HO.out HL.out.lex.lt (.int .i64 5) (.string (s.extract y2.st.toNat y2.p.toNat)) (.int .i64 y2.st) (.int .i64 y2.p) (.int .i64 y2.cl) (.int .i64 y2.cs))
    go_wp2
    generalize ((((((W.setCell ⟨w.heap.size, 0, none⟩ (.int .i64 5)).setCell ⟨w.heap.size, 1, none⟩ (.string (s.extract y2.st.toNat y2.p.toNat))).setCell ⟨w.heap.size, 2, none⟩ (.int .i64 y2.st)).setCell ⟨w.heap.size, 3, none⟩ (.int .i64 y2.p)).setCell ⟨w.heap.size, 4, none⟩ (.int .i64 y2.cl)).setCell ⟨w.heap.size, 5, none⟩ (.int .i64 y2.cs)) = W6 at H8 ⊢
    obtain ⟨hc8, _⟩ := cells_in H8.out.2
    have r0 := hc8 0
    have r1 := hc8 1
    have r2 := hc8 2
    have r3 := hc8 3
    have r4 := hc8 4
    have r5 := hc8 5
    simp only [List.getElem?_toArray, List.getElem?_cons_zero, List.getElem?_cons_succ] at r0 r1 r2 r3 r4 r5
    exact bodyPost_ret (v := .tuple #[tokV 5 (s.extract y2.st.toNat y2.p.toNat) y2, .nilIface]) (by simp [results, Tryd.results28, go_sem, tokV, r0, r1, r2, r3, r4, r5]) rfl ⟨rfl, H8.out.1⟩
end Go.Proofs.YtlpcbmgleecafaaDoor.Q
