/- The doors over the lexer: ZzNewLexer, zzData, ZzScan. Condition: the library's tables as it lays them, below the lexer's block. -/
import Derived.Test.YtlpcbmgleecafaaDoorHLexH
set_option linter.unusedVariables false
set_option linter.unusedSimpArgs false
namespace Go.Proofs.YtlpcbmgleecafaaDoor.Q
open Go.RowKit Go.Lib Go.Proofs.YtlpcbmgleecafaaDoorW.PrintWords Go.Proofs.YtlpcbmgleecafaaDoorW.PrintLast Go.Proofs.YtlpcbmgleecafaaDoorW.PrintMore
attribute [local go_sem] max2_int min2_int max_two min_two max_three min_three max_four min_four
set_option maxRecDepth 100000 in
set_option maxHeartbeats 1000000 in
theorem zzData_calls (k : Int) (v : ByteArray) (a b c d : Int) (er : Value) (w : World) :
    Calls Tryd.prog 17 #[.agg #[.int .i64 k, .string v, .int .i64 a, .int .i64 b, .int .i64 c, .int .i64 d], er] w fun e w' => e = .returned (.tuple #[.agg #[.int .i64 k, .string v, .int .i64 a, .int .i64 b, .int .i64 c, .int .i64 d], er]) ∧ Below w.heap.size w w' := by
  have hu0 := Tryd.underlying56
  have hu1 := Tryd.underlying38
  have hu2 := Tryd.underlying54
  go_enter Tryd.func17, Tryd.ntmps17
  go_wp2
  exact bodyPost_ret (v := .tuple #[.agg #[.int .i64 k, .string v, .int .i64 a, .int .i64 b, .int .i64 c, .int .i64 d], er]) (by simp [results, Tryd.results17, go_sem]) rfl ⟨rfl, by repeat (first | exact Below.refl _ _ | apply below_alloc | apply below_drew | apply pw_below_drewN | (refine below_set ?_ (by simp)))⟩
def lx0 : LSt := ⟨0, 0, 0, 0, 0⟩
set_option maxHeartbeats 1000000 in
theorem newLexer_calls (s : ByteArray) (w : World) :
    Calls Tryd.prog 10 #[.string s] w fun e w' => ∃ g, e = .returned (.pointer (some ⟨g, 0, none⟩)) ∧ w.heap.size ≤ g ∧ LexAt w' g 50 [] [] s .nilIface lx0 ∧ Below w.heap.size w w' := by
  have hu0 := Tryd.underlying48
  have hu1 := Tryd.underlying50
  go_enter Tryd.func10, Tryd.ntmps10
  go_wp2
  go_ret
  exact ⟨w.heap.size, rfl, Nat.le_refl _, heap_alloc_new w _, below_alloc (Below.refl _ _) _⟩
/-- What ZzScan leaves and hands back. -/
theorem LexOut.set_new {w W : World} {b T : Nat} {pre post : List Value} {s : ByteArray} {err : Value} {y : LSt} (h : LexOut w W b T pre post s err y) {k : Nat} (hk : w.heap.size ≤ k) (hb : b < w.heap.size) (o : Nat) (v : Value) : LexOut w (W.setCell ⟨k, o, none⟩ v) b T pre post s err y :=
  ⟨h.lex.other (by omega) o v, grown_new h.grown hk o v⟩
set_option maxRecDepth 100000 in
set_option maxHeartbeats 2000000 in
theorem zzScan_calls (w : World) (b T : Nat) (pre post : List Value) (s : ByteArray) (x : LSt) (h : LX w b T [] post s .nilIface x) (hk : LGd s x) (c : Sc) (y : LSt) (hc : scanF s (s.size + 1) x = (c, y)) :
    Calls Tryd.prog 11 #[.pointer (some ⟨b, 0, none⟩)] w fun e w' => ScP w w' b T [] post s c y e := by
  have HL := Aside0.mk h
  have HK := Aside0.mk hk
  have HC := Aside0.mk hc
  have HLA := Aside0.mk (h.alloc (.cells #[.int .i64 0, .string ⟨#[]⟩, .int .i64 0, .int .i64 0, .int .i64 0, .int .i64 0] 38))
  clear h hk hc
  have hu1 := Tryd.underlying38
  have hu2 := Tryd.underlying50
  go_enter Tryd.func11, Tryd.ntmps11
  go_wp2_with fail
  refine (scanT_calls _ b T [] post s x HLA.out HK.out).mono ?_
  rw [HC.out]
  rintro e w1 hP
  cases c with
  | eof =>
    obtain ⟨rfl, hO⟩ := hP
    unfold tok0
    have HO := Aside0.mk hO
    clear hO
    go_wp2_with fail
    refine (zzData_calls 0 (⟨#[]⟩) 0 0 0 0 .nilIface _).mono ?_
    rintro e w2 ⟨rfl, hb⟩
    have HO2 := Aside0.mk (HO.out.below hb)
    clear hb
    have HBZ : Aside0 (w2.heap[w.heap.size]? = some (.cells #[.int .i64 0, .string ⟨#[]⟩, .int .i64 0, .int .i64 0, .int .i64 0, .int .i64 0] 38 (0, 0))) := ⟨(HO2.out.grown.block w.heap.size (by simp) (by intro e; injection e with e; have := HL.out.lex.lt; omega)).trans (heap_alloc_new w _)⟩
    obtain ⟨hcz, hfz⟩ := cells_in HBZ.out
    have z0 := hcz 0
    have z1 := hcz 1
    have z2 := hcz 2
    have z3 := hcz 3
    have z4 := hcz 4
    have z5 := hcz 5
    simp only [List.getElem?_toArray, List.getElem?_cons_zero, List.getElem?_cons_succ] at z0 z1 z2 z3 z4 z5
    clear hcz
    have HOW : Aside0 (LexOut w w2 b T [] post s _ _) := ⟨⟨HO2.out.lex, (World.grownBy_alloc w _ (some b)).trans HO2.out.grown⟩⟩
    have hlt := HL.out.lex.lt
    have HF := Aside0.mk ((((((HOW.out.set_new (Nat.le_refl _) hlt 0 (.int .i64 0)).set_new (Nat.le_refl _) hlt 1 (.string ⟨#[]⟩)).set_new (Nat.le_refl _) hlt 2 (.int .i64 0)).set_new (Nat.le_refl _) hlt 3 (.int .i64 0)).set_new (Nat.le_refl _) hlt 4 (.int .i64 0)).set_new (Nat.le_refl _) hlt 5 (.int .i64 0))
    have H8 := Aside0.mk (old_tok HBZ.out (.int .i64 0) (.string ⟨#[]⟩) (.int .i64 0) (.int .i64 0) (.int .i64 0) (.int .i64 0))
    clear hlt
    go_wp2
    generalize ((((((w2.setCell ⟨w.heap.size, 0, none⟩ (.int .i64 0)).setCell ⟨w.heap.size, 1, none⟩ (.string ⟨#[]⟩)).setCell ⟨w.heap.size, 2, none⟩ (.int .i64 0)).setCell ⟨w.heap.size, 3, none⟩ (.int .i64 0)).setCell ⟨w.heap.size, 4, none⟩ (.int .i64 0)).setCell ⟨w.heap.size, 5, none⟩ (.int .i64 0)) = W6 at H8 HF ⊢
    obtain ⟨hc8, _⟩ := cells_in H8.out
    have r0 := hc8 0
    have r1 := hc8 1
    have r2 := hc8 2
    have r3 := hc8 3
    have r4 := hc8 4
    have r5 := hc8 5
    simp only [List.getElem?_toArray, List.getElem?_cons_zero, List.getElem?_cons_succ] at r0 r1 r2 r3 r4 r5
    exact bodyPost_ret (v := .tuple #[.agg #[.int .i64 0, .string ⟨#[]⟩, .int .i64 0, .int .i64 0, .int .i64 0, .int .i64 0], .nilIface]) (by simp [results, Tryd.results11, go_sem, r0, r1, r2, r3, r4, r5]) rfl ⟨rfl, HF.out⟩
  | bad =>
    obtain ⟨ev, hev, rfl, hO⟩ := hP
    unfold tok0
    have HO := Aside0.mk hO
    clear hO
    go_wp2_with fail
    refine (zzData_calls 0 (⟨#[]⟩) 0 0 0 0 ev _).mono ?_
    rintro e w2 ⟨rfl, hb⟩
    have HO2 := Aside0.mk (HO.out.below hb)
    clear hb
    have HBZ : Aside0 (w2.heap[w.heap.size]? = some (.cells #[.int .i64 0, .string ⟨#[]⟩, .int .i64 0, .int .i64 0, .int .i64 0, .int .i64 0] 38 (0, 0))) := ⟨(HO2.out.grown.block w.heap.size (by simp) (by intro e; injection e with e; have := HL.out.lex.lt; omega)).trans (heap_alloc_new w _)⟩
    obtain ⟨hcz, hfz⟩ := cells_in HBZ.out
    have z0 := hcz 0
    have z1 := hcz 1
    have z2 := hcz 2
    have z3 := hcz 3
    have z4 := hcz 4
    have z5 := hcz 5
    simp only [List.getElem?_toArray, List.getElem?_cons_zero, List.getElem?_cons_succ] at z0 z1 z2 z3 z4 z5
    clear hcz
    have HOW : Aside0 (LexOut w w2 b T [] post s _ _) := ⟨⟨HO2.out.lex, (World.grownBy_alloc w _ (some b)).trans HO2.out.grown⟩⟩
    have hlt := HL.out.lex.lt
    have HF := Aside0.mk ((((((HOW.out.set_new (Nat.le_refl _) hlt 0 (.int .i64 0)).set_new (Nat.le_refl _) hlt 1 (.string ⟨#[]⟩)).set_new (Nat.le_refl _) hlt 2 (.int .i64 0)).set_new (Nat.le_refl _) hlt 3 (.int .i64 0)).set_new (Nat.le_refl _) hlt 4 (.int .i64 0)).set_new (Nat.le_refl _) hlt 5 (.int .i64 0))
    have H8 := Aside0.mk (old_tok HBZ.out (.int .i64 0) (.string ⟨#[]⟩) (.int .i64 0) (.int .i64 0) (.int .i64 0) (.int .i64 0))
    clear hlt
    go_wp2
    generalize ((((((w2.setCell ⟨w.heap.size, 0, none⟩ (.int .i64 0)).setCell ⟨w.heap.size, 1, none⟩ (.string ⟨#[]⟩)).setCell ⟨w.heap.size, 2, none⟩ (.int .i64 0)).setCell ⟨w.heap.size, 3, none⟩ (.int .i64 0)).setCell ⟨w.heap.size, 4, none⟩ (.int .i64 0)).setCell ⟨w.heap.size, 5, none⟩ (.int .i64 0)) = W6 at H8 HF ⊢
    obtain ⟨hc8, _⟩ := cells_in H8.out
    have r0 := hc8 0
    have r1 := hc8 1
    have r2 := hc8 2
    have r3 := hc8 3
    have r4 := hc8 4
    have r5 := hc8 5
    simp only [List.getElem?_toArray, List.getElem?_cons_zero, List.getElem?_cons_succ] at r0 r1 r2 r3 r4 r5
    exact bodyPost_ret (v := .tuple #[.agg #[.int .i64 0, .string ⟨#[]⟩, .int .i64 0, .int .i64 0, .int .i64 0, .int .i64 0], ev]) (by simp [results, Tryd.results11, go_sem, r0, r1, r2, r3, r4, r5]) rfl ⟨_, hev, rfl, HF.out⟩
  | tok k =>
    obtain ⟨rfl, hO⟩ := hP
    unfold tokV
    have HO := Aside0.mk hO
    clear hO
    go_wp2_with fail
    refine (zzData_calls (k) ((s.extract y.st.toNat y.p.toNat)) (y.st) (y.p) (y.cl) (y.cs) .nilIface _).mono ?_
    rintro e w2 ⟨rfl, hb⟩
    have HO2 := Aside0.mk (HO.out.below hb)
    clear hb
    have HBZ : Aside0 (w2.heap[w.heap.size]? = some (.cells #[.int .i64 0, .string ⟨#[]⟩, .int .i64 0, .int .i64 0, .int .i64 0, .int .i64 0] 38 (0, 0))) := ⟨(HO2.out.grown.block w.heap.size (by simp) (by intro e; injection e with e; have := HL.out.lex.lt; omega)).trans (heap_alloc_new w _)⟩
    obtain ⟨hcz, hfz⟩ := cells_in HBZ.out
    have z0 := hcz 0
    have z1 := hcz 1
    have z2 := hcz 2
    have z3 := hcz 3
    have z4 := hcz 4
    have z5 := hcz 5
    simp only [List.getElem?_toArray, List.getElem?_cons_zero, List.getElem?_cons_succ] at z0 z1 z2 z3 z4 z5
    clear hcz
    have HOW : Aside0 (LexOut w w2 b T [] post s _ _) := ⟨⟨HO2.out.lex, (World.grownBy_alloc w _ (some b)).trans HO2.out.grown⟩⟩
    have hlt := HL.out.lex.lt
    have HF := Aside0.mk ((((((HOW.out.set_new (Nat.le_refl _) hlt 0 (.int .i64 k)).set_new (Nat.le_refl _) hlt 1 (.string (s.extract y.st.toNat y.p.toNat))).set_new (Nat.le_refl _) hlt 2 (.int .i64 y.st)).set_new (Nat.le_refl _) hlt 3 (.int .i64 y.p)).set_new (Nat.le_refl _) hlt 4 (.int .i64 y.cl)).set_new (Nat.le_refl _) hlt 5 (.int .i64 y.cs))
    have H8 := Aside0.mk (old_tok HBZ.out (.int .i64 k) (.string (s.extract y.st.toNat y.p.toNat)) (.int .i64 y.st) (.int .i64 y.p) (.int .i64 y.cl) (.int .i64 y.cs))
    clear hlt
    go_wp2
    generalize ((((((w2.setCell ⟨w.heap.size, 0, none⟩ (.int .i64 k)).setCell ⟨w.heap.size, 1, none⟩ (.string (s.extract y.st.toNat y.p.toNat))).setCell ⟨w.heap.size, 2, none⟩ (.int .i64 y.st)).setCell ⟨w.heap.size, 3, none⟩ (.int .i64 y.p)).setCell ⟨w.heap.size, 4, none⟩ (.int .i64 y.cl)).setCell ⟨w.heap.size, 5, none⟩ (.int .i64 y.cs)) = W6 at H8 HF ⊢
    obtain ⟨hc8, _⟩ := cells_in H8.out
    have r0 := hc8 0
    have r1 := hc8 1
    have r2 := hc8 2
    have r3 := hc8 3
    have r4 := hc8 4
    have r5 := hc8 5
    simp only [List.getElem?_toArray, List.getElem?_cons_zero, List.getElem?_cons_succ] at r0 r1 r2 r3 r4 r5
    exact bodyPost_ret (v := .tuple #[.agg #[.int .i64 k, .string (s.extract y.st.toNat y.p.toNat), .int .i64 y.st, .int .i64 y.p, .int .i64 y.cl, .int .i64 y.cs], .nilIface]) (by simp [results, Tryd.results11, go_sem, r0, r1, r2, r3, r4, r5]) rfl ⟨rfl, HF.out⟩
end Go.Proofs.YtlpcbmgleecafaaDoor.Q
