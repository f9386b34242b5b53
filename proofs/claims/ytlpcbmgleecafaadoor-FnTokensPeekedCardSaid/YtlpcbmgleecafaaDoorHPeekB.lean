/- The lexer's scan where an error is known, and the doors ZzScan and ZzPeek. Condition: the library's tables as it lays them, below the lexer's block. -/
import Derived.Test.YtlpcbmgleecafaaDoorHPeek
import Derived.Test.YtlpcbmgleecafaaDoorHLexI
set_option linter.unusedVariables false
set_option linter.unusedSimpArgs false
namespace Go.Proofs.YtlpcbmgleecafaaDoor.Q
open Go.RowKit Go.Lib Go.Proofs.YtlpcbmgleecafaaDoorW.PrintWords Go.Proofs.YtlpcbmgleecafaaDoorW.PrintLast Go.Proofs.YtlpcbmgleecafaaDoorW.PrintMore
attribute [local go_sem] max2_int min2_int max_two min_two max_three min_three max_four min_four
set_option maxRecDepth 100000 in
set_option maxHeartbeats 4000000 in
theorem scanE_calls (w : World) (b T : Nat) (pre post : List Value) (s : ByteArray) (x : LSt) (ti : Nat) (pv : Value) (h : LX w b T pre post s (.iface ti pv) x) :
    Calls Tryd.prog 18 #[.pointer (some ⟨b, pre.length, none⟩)] w fun e w' => e = .returned (.tuple #[tok0, .iface ti pv]) ∧ LexOut w w' b T pre post s (.iface ti pv) x := by
  have HT := Aside0.mk (ScT.start h)
  have c1 := (h.alloc (.cells #[.int .i64 0, .string ⟨#[]⟩, .int .i64 0, .int .i64 0, .int .i64 0, .int .i64 0] 56)).lex.c1
  have c1' := ((h.alloc (.cells #[.int .i64 0, .string ⟨#[]⟩, .int .i64 0, .int .i64 0, .int .i64 0, .int .i64 0] 56)).alloc (.cells #[.int .i64 0, .string ⟨#[]⟩, .int .i64 0, .int .i64 0, .int .i64 0, .int .i64 0] 56)).lex.c1
  have hu0 := Tryd.underlying56
  have hlt := h.lex.lt
  have n1 : ¬ b = w.heap.size := by omega
  have n2 : ¬ w.heap.size = b := by omega
  have n3 : ¬ b = w.heap.size + 1 := by omega
  have n4 : ¬ w.heap.size + 1 = b := by omega
  clear h
  go_enter Tryd.func18, Tryd.ntmps18
  go_wp2_with fail
  obtain ⟨a1, a2, a3, a4⟩ := HT.out.facts
  have t0 := a1 0
  have t1 := a1 1
  have t2 := a1 2
  have t3 := a1 3
  have t4 := a1 4
  have t5 := a1 5
  have z0 := a3 0
  have z1 := a3 1
  have z2 := a3 2
  have z3 := a3 3
  have z4 := a3 4
  have z5 := a3 5
  simp only [List.getElem?_toArray, List.getElem?_cons_zero, List.getElem?_cons_succ] at t0 t1 t2 t3 t4 t5 z0 z1 z2 z3 z4 z5
  clear a1 a3
  generalize hW : ((w.alloc (.cells #[.int .i64 0, .string ⟨#[]⟩, .int .i64 0, .int .i64 0, .int .i64 0, .int .i64 0] 56)).alloc (.cells #[.int .i64 0, .string ⟨#[]⟩, .int .i64 0, .int .i64 0, .int .i64 0, .int .i64 0] 56)) = W at *
  clear hW
  go_region_held3 (fun W => W.cell? ⟨w.heap.size + 1, 0, none⟩ = some (.int .i64 0) ∧ W.cell? ⟨w.heap.size + 1, 1, none⟩ = some (.string ⟨#[]⟩) ∧ W.cell? ⟨w.heap.size + 1, 2, none⟩ = some (.int .i64 0) ∧ W.cell? ⟨w.heap.size + 1, 3, none⟩ = some (.int .i64 0) ∧ W.cell? ⟨w.heap.size + 1, 4, none⟩ = some (.int .i64 0) ∧ W.cell? ⟨w.heap.size + 1, 5, none⟩ = some (.int .i64 0) ∧ W.cell? ⟨b, pre.length + 1, none⟩ = some (.iface ti pv)) (first | go_keep) (first | fail)
  go_wp2
  have HD := Aside0.mk (HT.out.fin (.int .i64 0) (.string ⟨#[]⟩) (.int .i64 0) (.int .i64 0) (.int .i64 0) (.int .i64 0))
  generalize ((((((W.setCell ⟨w.heap.size, 0, none⟩ (.int .i64 0)).setCell ⟨w.heap.size, 1, none⟩ (.string ⟨#[]⟩)).setCell ⟨w.heap.size, 2, none⟩ (.int .i64 0)).setCell ⟨w.heap.size, 3, none⟩ (.int .i64 0)).setCell ⟨w.heap.size, 4, none⟩ (.int .i64 0)).setCell ⟨w.heap.size, 5, none⟩ (.int .i64 0)) = W6 at HD ⊢
  obtain ⟨hc8, _⟩ := cells_in HD.out.2
  have r0 := hc8 0
  have r1 := hc8 1
  have r2 := hc8 2
  have r3 := hc8 3
  have r4 := hc8 4
  have r5 := hc8 5
  simp only [List.getElem?_toArray, List.getElem?_cons_zero, List.getElem?_cons_succ] at r0 r1 r2 r3 r4 r5
  exact bodyPost_ret (v := .tuple #[tok0, .iface ti pv]) (by simp [results, Tryd.results18, go_sem, tok0, r0, r1, r2, r3, r4, r5]) rfl ⟨rfl, (HD.out.1.below (below_drew (Below.refl _ _)))⟩
set_option maxRecDepth 100000 in
set_option maxHeartbeats 2000000 in
theorem zzPeek_calls (w : World) (b T : Nat) (pre post : List Value) (s : ByteArray) (x : LSt) (h : LX w b T [] post s .nilIface x) (hk : LGd s x) (c : Sc) (y : LSt) (hc : scanF s (s.size + 1) x = (c, y)) :
    Calls Tryd.prog 16 #[.pointer (some ⟨b, 0, none⟩)] w fun e w' => PkP w w' b T [] post s c y x e := by
  have HL := Aside0.mk h
  have HK := Aside0.mk hk
  have HC := Aside0.mk hc
  have HLA := Aside0.mk (h.alloc (.cells #[.int .i64 0, .string ⟨#[]⟩, .int .i64 0, .int .i64 0, .int .i64 0, .int .i64 0] 38))
  clear h hk hc
  have hu1 := Tryd.underlying38
  have hu2 := Tryd.underlying50
  go_enter Tryd.func16, Tryd.ntmps16
  go_wp2_with fail
  refine (peek_calls _ b T [] post s x HLA.out HK.out c y HC.out).mono ?_
  rintro e w1 hP
  cases c with
  | eof =>
    obtain ⟨rfl, hO⟩ := hP
    unfold tok0
    have HO := Aside0.mk hO
    clear hO
    go_wp2_with fail
    refine (zzData_calls 0 (⟨#[]⟩) 0 0 0 0 .nilIface _).mono ?_
    rintro e w2 ⟨rfl, hb⟩
    have HO2 := Aside0.mk (HO.out.below hb)
    clear hb
    have HBZ : Aside0 (w2.heap[w.heap.size]? = some (.cells #[.int .i64 0, .string ⟨#[]⟩, .int .i64 0, .int .i64 0, .int .i64 0, .int .i64 0] 38 (0, 0))) := ⟨(HO2.out.grown.block w.heap.size (by simp) (by intro e; injection e with e; have := HL.out.lex.lt; omega)).trans (heap_alloc_new w _)⟩
    obtain ⟨hcz, hfz⟩ := cells_in HBZ.out
    have z0 := hcz 0
    have z1 := hcz 1
    have z2 := hcz 2
    have z3 := hcz 3
    have z4 := hcz 4
    have z5 := hcz 5
    simp only [List.getElem?_toArray, List.getElem?_cons_zero, List.getElem?_cons_succ] at z0 z1 z2 z3 z4 z5
    clear hcz
    have HOW : Aside0 (LexOut w w2 b T [] post s _ _) := ⟨⟨HO2.out.lex, (World.grownBy_alloc w _ (some b)).trans HO2.out.grown⟩⟩
    have hlt := HL.out.lex.lt
    have HF := Aside0.mk ((((((HOW.out.set_new (Nat.le_refl _) hlt 0 (.int .i64 0)).set_new (Nat.le_refl _) hlt 1 (.string ⟨#[]⟩)).set_new (Nat.le_refl _) hlt 2 (.int .i64 0)).set_new (Nat.le_refl _) hlt 3 (.int .i64 0)).set_new (Nat.le_refl _) hlt 4 (.int .i64 0)).set_new (Nat.le_refl _) hlt 5 (.int .i64 0))
    have H8 := Aside0.mk (old_tok HBZ.out (.int .i64 0) (.string ⟨#[]⟩) (.int .i64 0) (.int .i64 0) (.int .i64 0) (.int .i64 0))
    clear hlt
    go_wp2
    generalize ((((((w2.setCell ⟨w.heap.size, 0, none⟩ (.int .i64 0)).setCell ⟨w.heap.size, 1, none⟩ (.string ⟨#[]⟩)).setCell ⟨w.heap.size, 2, none⟩ (.int .i64 0)).setCell ⟨w.heap.size, 3, none⟩ (.int .i64 0)).setCell ⟨w.heap.size, 4, none⟩ (.int .i64 0)).setCell ⟨w.heap.size, 5, none⟩ (.int .i64 0)) = W6 at H8 HF ⊢
    obtain ⟨hc8, _⟩ := cells_in H8.out
    have r0 := hc8 0
    have r1 := hc8 1
    have r2 := hc8 2
    have r3 := hc8 3
    have r4 := hc8 4
    have r5 := hc8 5
    simp only [List.getElem?_toArray, List.getElem?_cons_zero, List.getElem?_cons_succ] at r0 r1 r2 r3 r4 r5
    exact bodyPost_ret (v := .tuple #[.agg #[.int .i64 0, .string ⟨#[]⟩, .int .i64 0, .int .i64 0, .int .i64 0, .int .i64 0], .nilIface]) (by simp [results, Tryd.results16, go_sem, r0, r1, r2, r3, r4, r5]) rfl ⟨rfl, HF.out⟩
  | bad =>
    obtain ⟨ev, hev, rfl, hO⟩ := hP
    unfold tok0
    have HO := Aside0.mk hO
    clear hO
    go_wp2_with fail
    refine (zzData_calls 0 (⟨#[]⟩) 0 0 0 0 ev _).mono ?_
    rintro e w2 ⟨rfl, hb⟩
    have HO2 := Aside0.mk (HO.out.below hb)
    clear hb
    have HBZ : Aside0 (w2.heap[w.heap.size]? = some (.cells #[.int .i64 0, .string ⟨#[]⟩, .int .i64 0, .int .i64 0, .int .i64 0, .int .i64 0] 38 (0, 0))) := ⟨(HO2.out.grown.block w.heap.size (by simp) (by intro e; injection e with e; have := HL.out.lex.lt; omega)).trans (heap_alloc_new w _)⟩
    obtain ⟨hcz, hfz⟩ := cells_in HBZ.out
    have z0 := hcz 0
    have z1 := hcz 1
    have z2 := hcz 2
    have z3 := hcz 3
    have z4 := hcz 4
    have z5 := hcz 5
    simp only [List.getElem?_toArray, List.getElem?_cons_zero, List.getElem?_cons_succ] at z0 z1 z2 z3 z4 z5
    clear hcz
    have HOW : Aside0 (LexOut w w2 b T [] post s _ _) := ⟨⟨HO2.out.lex, (World.grownBy_alloc w _ (some b)).trans HO2.out.grown⟩⟩
    have hlt := HL.out.lex.lt
    have HF := Aside0.mk ((((((HOW.out.set_new (Nat.le_refl _) hlt 0 (.int .i64 0)).set_new (Nat.le_refl _) hlt 1 (.string ⟨#[]⟩)).set_new (Nat.le_refl _) hlt 2 (.int .i64 0)).set_new (Nat.le_refl _) hlt 3 (.int .i64 0)).set_new (Nat.le_refl _) hlt 4 (.int .i64 0)).set_new (Nat.le_refl _) hlt 5 (.int .i64 0))
    have H8 := Aside0.mk (old_tok HBZ.out (.int .i64 0) (.string ⟨#[]⟩) (.int .i64 0) (.int .i64 0) (.int .i64 0) (.int .i64 0))
    clear hlt
    go_wp2
    generalize ((((((w2.setCell ⟨w.heap.size, 0, none⟩ (.int .i64 0)).setCell ⟨w.heap.size, 1, none⟩ (.string ⟨#[]⟩)).setCell ⟨w.heap.size, 2, none⟩ (.int .i64 0)).setCell ⟨w.heap.size, 3, none⟩ (.int .i64 0)).setCell ⟨w.heap.size, 4, none⟩ (.int .i64 0)).setCell ⟨w.heap.size, 5, none⟩ (.int .i64 0)) = W6 at H8 HF ⊢
    obtain ⟨hc8, _⟩ := cells_in H8.out
    have r0 := hc8 0
    have r1 := hc8 1
    have r2 := hc8 2
    have r3 := hc8 3
    have r4 := hc8 4
    have r5 := hc8 5
    simp only [List.getElem?_toArray, List.getElem?_cons_zero, List.getElem?_cons_succ] at r0 r1 r2 r3 r4 r5
    exact bodyPost_ret (v := .tuple #[.agg #[.int .i64 0, .string ⟨#[]⟩, .int .i64 0, .int .i64 0, .int .i64 0, .int .i64 0], ev]) (by simp [results, Tryd.results16, go_sem, r0, r1, r2, r3, r4, r5]) rfl ⟨_, hev, rfl, HF.out⟩
  | tok k =>
    obtain ⟨rfl, hO⟩ := hP
    unfold tokV
    have HO := Aside0.mk hO
    clear hO
    go_wp2_with fail
    refine (zzData_calls (k) ((s.extract y.st.toNat y.p.toNat)) (y.st) (y.p) (y.cl) (y.cs) .nilIface _).mono ?_
    rintro e w2 ⟨rfl, hb⟩
    have HO2 := Aside0.mk (HO.out.below hb)
    clear hb
    have HBZ : Aside0 (w2.heap[w.heap.size]? = some (.cells #[.int .i64 0, .string ⟨#[]⟩, .int .i64 0, .int .i64 0, .int .i64 0, .int .i64 0] 38 (0, 0))) := ⟨(HO2.out.grown.block w.heap.size (by simp) (by intro e; injection e with e; have := HL.out.lex.lt; omega)).trans (heap_alloc_new w _)⟩
    obtain ⟨hcz, hfz⟩ := cells_in HBZ.out
    have z0 := hcz 0
    have z1 := hcz 1
    have z2 := hcz 2
    have z3 := hcz 3
    have z4 := hcz 4
    have z5 := hcz 5
    simp only [List.getElem?_toArray, List.getElem?_cons_zero, List.getElem?_cons_succ] at z0 z1 z2 z3 z4 z5
    clear hcz
    have HOW : Aside0 (LexOut w w2 b T [] post s _ _) := ⟨⟨HO2.out.lex, (World.grownBy_alloc w _ (some b)).trans HO2.out.grown⟩⟩
    have hlt := HL.out.lex.lt
    have HF := Aside0.mk ((((((HOW.out.set_new (Nat.le_refl _) hlt 0 (.int .i64 k)).set_new (Nat.le_refl _) hlt 1 (.string (s.extract y.st.toNat y.p.toNat))).set_new (Nat.le_refl _) hlt 2 (.int .i64 y.st)).set_new (Nat.le_refl _) hlt 3 (.int .i64 y.p)).set_new (Nat.le_refl _) hlt 4 (.int .i64 y.cl)).set_new (Nat.le_refl _) hlt 5 (.int .i64 y.cs))
    have H8 := Aside0.mk (old_tok HBZ.out (.int .i64 k) (.string (s.extract y.st.toNat y.p.toNat)) (.int .i64 y.st) (.int .i64 y.p) (.int .i64 y.cl) (.int .i64 y.cs))
    clear hlt
    go_wp2
    generalize ((((((w2.setCell ⟨w.heap.size, 0, none⟩ (.int .i64 k)).setCell ⟨w.heap.size, 1, none⟩ (.string (s.extract y.st.toNat y.p.toNat))).setCell ⟨w.heap.size, 2, none⟩ (.int .i64 y.st)).setCell ⟨w.heap.size, 3, none⟩ (.int .i64 y.p)).setCell ⟨w.heap.size, 4, none⟩ (.int .i64 y.cl)).setCell ⟨w.heap.size, 5, none⟩ (.int .i64 y.cs)) = W6 at H8 HF ⊢
    obtain ⟨hc8, _⟩ := cells_in H8.out
    have r0 := hc8 0
    have r1 := hc8 1
    have r2 := hc8 2
    have r3 := hc8 3
    have r4 := hc8 4
    have r5 := hc8 5
    simp only [List.getElem?_toArray, List.getElem?_cons_zero, List.getElem?_cons_succ] at r0 r1 r2 r3 r4 r5
    exact bodyPost_ret (v := .tuple #[.agg #[.int .i64 k, .string (s.extract y.st.toNat y.p.toNat), .int .i64 y.st, .int .i64 y.p, .int .i64 y.cl, .int .i64 y.cs], .nilIface]) (by simp [results, Tryd.results16, go_sem, r0, r1, r2, r3, r4, r5]) rfl ⟨rfl, HF.out⟩
set_option maxRecDepth 100000 in
set_option maxHeartbeats 2000000 in
theorem zzScanE_calls (w : World) (b T : Nat) (pre post : List Value) (s : ByteArray) (x : LSt) (ti : Nat) (pv : Value) (h : LX w b T [] post s (.iface ti pv) x) :
    Calls Tryd.prog 11 #[.pointer (some ⟨b, 0, none⟩)] w fun e w' => e = .returned (.tuple #[tok0, .iface ti pv]) ∧ LexOut w w' b T [] post s (.iface ti pv) x := by
  have HL := Aside0.mk h
  have HLA := Aside0.mk (h.alloc (.cells #[.int .i64 0, .string ⟨#[]⟩, .int .i64 0, .int .i64 0, .int .i64 0, .int .i64 0] 38))
  clear h
  have hu1 := Tryd.underlying38
  have hu2 := Tryd.underlying50
  go_enter Tryd.func11, Tryd.ntmps11
  go_wp2_with fail
  refine (scanE_calls _ b T [] post s x ti pv HLA.out).mono ?_
  rintro e w1 hP
  obtain ⟨rfl, hO⟩ := hP
  unfold tok0
  have HO := Aside0.mk hO
  clear hO
  go_wp2_with fail
  refine (zzData_calls 0 (⟨#[]⟩) 0 0 0 0 (.iface ti pv) _).mono ?_
  rintro e w2 ⟨rfl, hb⟩
  have HO2 := Aside0.mk (HO.out.below hb)
  clear hb
  have HBZ : Aside0 (w2.heap[w.heap.size]? = some (.cells #[.int .i64 0, .string ⟨#[]⟩, .int .i64 0, .int .i64 0, .int .i64 0, .int .i64 0] 38 (0, 0))) := ⟨(HO2.out.grown.block w.heap.size (by simp) (by intro e; injection e with e; have := HL.out.lex.lt; omega)).trans (heap_alloc_new w _)⟩
  obtain ⟨hcz, hfz⟩ := cells_in HBZ.out
  have z0 := hcz 0
  have z1 := hcz 1
  have z2 := hcz 2
  have z3 := hcz 3
  have z4 := hcz 4
  have z5 := hcz 5
  simp only [List.getElem?_toArray, List.getElem?_cons_zero, List.getElem?_cons_succ] at z0 z1 z2 z3 z4 z5
  clear hcz
  have HOW : Aside0 (LexOut w w2 b T [] post s _ _) := ⟨⟨HO2.out.lex, (World.grownBy_alloc w _ (some b)).trans HO2.out.grown⟩⟩
  have hlt := HL.out.lex.lt
  have HF := Aside0.mk ((((((HOW.out.set_new (Nat.le_refl _) hlt 0 (.int .i64 0)).set_new (Nat.le_refl _) hlt 1 (.string ⟨#[]⟩)).set_new (Nat.le_refl _) hlt 2 (.int .i64 0)).set_new (Nat.le_refl _) hlt 3 (.int .i64 0)).set_new (Nat.le_refl _) hlt 4 (.int .i64 0)).set_new (Nat.le_refl _) hlt 5 (.int .i64 0))
  have H8 := Aside0.mk (old_tok HBZ.out (.int .i64 0) (.string ⟨#[]⟩) (.int .i64 0) (.int .i64 0) (.int .i64 0) (.int .i64 0))
  clear hlt
  go_wp2
  generalize ((((((w2.setCell ⟨w.heap.size, 0, none⟩ (.int .i64 0)).setCell ⟨w.heap.size, 1, none⟩ (.string ⟨#[]⟩)).setCell ⟨w.heap.size, 2, none⟩ (.int .i64 0)).setCell ⟨w.heap.size, 3, none⟩ (.int .i64 0)).setCell ⟨w.heap.size, 4, none⟩ (.int .i64 0)).setCell ⟨w.heap.size, 5, none⟩ (.int .i64 0)) = W6 at H8 HF ⊢
  obtain ⟨hc8, _⟩ := cells_in H8.out
  have r0 := hc8 0
  have r1 := hc8 1
  have r2 := hc8 2
  have r3 := hc8 3
  have r4 := hc8 4
  have r5 := hc8 5
  simp only [List.getElem?_toArray, List.getElem?_cons_zero, List.getElem?_cons_succ] at r0 r1 r2 r3 r4 r5
  exact bodyPost_ret (v := .tuple #[.agg #[.int .i64 0, .string ⟨#[]⟩, .int .i64 0, .int .i64 0, .int .i64 0, .int .i64 0], .iface ti pv]) (by simp [results, Tryd.results11, go_sem, r0, r1, r2, r3, r4, r5]) rfl ⟨rfl, HF.out⟩
end Go.Proofs.YtlpcbmgleecafaaDoor.Q
