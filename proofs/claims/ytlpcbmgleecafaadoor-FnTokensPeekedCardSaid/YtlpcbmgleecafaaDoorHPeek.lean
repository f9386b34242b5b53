/- The lexer's peek: what it leaves is the lexer as it was but for the error. Condition: the library's tables as it lays them, below the lexer's block. -/
import Derived.Test.YtlpcbmgleecafaaDoorHLexH
import Derived.Defers
set_option linter.unusedVariables false
set_option linter.unusedSimpArgs false
namespace Go.Proofs.YtlpcbmgleecafaaDoor.Q
open Go.RowKit Go.Lib Go.Proofs.YtlpcbmgleecafaaDoorW.PrintWords Go.Proofs.YtlpcbmgleecafaaDoorW.PrintLast Go.Proofs.YtlpcbmgleecafaaDoorW.PrintMore
attribute [local go_sem] max2_int min2_int max_two min_two max_three min_three max_four min_four
set_option maxRecDepth 100000 in
set_option maxHeartbeats 2000000 in
theorem peek1_calls (w : World) (b T : Nat) (pre post : List Value) (s : ByteArray) (err : Value) (x y : LSt) (g0 g1 g2 g3 g4 g5 : Nat) (h : LexAt w b T pre post s err y)
    (k1 : w.cell? ⟨g1, 0, none⟩ = some (.pointer (some ⟨b, pre.length, none⟩))) (k0 : w.cell? ⟨g0, 0, none⟩ = some (.int .i64 x.st)) (k2 : w.cell? ⟨g2, 0, none⟩ = some (.int .i64 x.p)) (k3 : w.cell? ⟨g3, 0, none⟩ = some (.int .i64 x.wd)) (k4 : w.cell? ⟨g4, 0, none⟩ = some (.int .i64 x.cl)) (k5 : w.cell? ⟨g5, 0, none⟩ = some (.int .i64 x.cs))
    (n0 : ¬ b = g0) (n1 : ¬ b = g1) (n2 : ¬ b = g2) (n3 : ¬ b = g3) (n4 : ¬ b = g4) (n5 : ¬ b = g5) :
    CallsD Tryd.prog 36 #[.pointer (some ⟨g0, 0, none⟩), .pointer (some ⟨g1, 0, none⟩), .pointer (some ⟨g2, 0, none⟩), .pointer (some ⟨g3, 0, none⟩), .pointer (some ⟨g4, 0, none⟩), .pointer (some ⟨g5, 0, none⟩)] .returning w fun e u' w' => u' = .returning ∧ e = .returned (.tuple #[]) ∧ LexOut w w' b T pre post s err x := by
  have HL := Aside0.mk h
  have c2 := h.c2
  have c3 := h.c3
  have c4 := h.c4
  have c5 := h.c5
  have c6 := h.c6
  have f2 := h.free (pre.length + 2)
  have f3 := h.free (pre.length + 3)
  have f4 := h.free (pre.length + 4)
  have f5 := h.free (pre.length + 5)
  have f6 := h.free (pre.length + 6)
  clear h
  go_enter_d Tryd.func36, Tryd.ntmps36
  go_wp2
  go_end0
  exact ⟨rfl, ((((HL.out.set2 x.st).set3 x.p).set4 x.wd).set5 x.cl).set6 x.cs, grown_set (grown_set (grown_set (grown_set (grown_set (World.grownBy.refl _ _) _ _) _ _) _ _) _ _) _ _⟩
theorem pk_heap (w : World) (o0 : Obj) (o1 : Obj) (o2 : Obj) (o3 : Obj) (o4 : Obj) (o5 : Obj) (o6 : Obj) : (((((((w.alloc o0).alloc o1).alloc o2).alloc o3).alloc o4).alloc o5).alloc o6).heap[w.heap.size]? = some o0 ∧ (((((((w.alloc o0).alloc o1).alloc o2).alloc o3).alloc o4).alloc o5).alloc o6).heap[w.heap.size + 1]? = some o1 ∧ (((((((w.alloc o0).alloc o1).alloc o2).alloc o3).alloc o4).alloc o5).alloc o6).heap[w.heap.size + 1 + 1]? = some o2 ∧ (((((((w.alloc o0).alloc o1).alloc o2).alloc o3).alloc o4).alloc o5).alloc o6).heap[w.heap.size + 1 + 1 + 1]? = some o3 ∧ (((((((w.alloc o0).alloc o1).alloc o2).alloc o3).alloc o4).alloc o5).alloc o6).heap[w.heap.size + 1 + 1 + 1 + 1]? = some o4 ∧ (((((((w.alloc o0).alloc o1).alloc o2).alloc o3).alloc o4).alloc o5).alloc o6).heap[w.heap.size + 1 + 1 + 1 + 1 + 1]? = some o5 ∧ (((((((w.alloc o0).alloc o1).alloc o2).alloc o3).alloc o4).alloc o5).alloc o6).heap[w.heap.size + 1 + 1 + 1 + 1 + 1 + 1]? = some o6 := by
  refine ⟨?_, ?_, ?_, ?_, ?_, ?_, ?_⟩
  all_goals
    simp only [World.alloc, Array.getElem?_push, Array.size_push]
    simp
    try (repeat rw [if_neg (by omega)])
theorem pk_grown (w w1 : World) (b : Nat) (o0 : Obj) (o1 : Obj) (o2 : Obj) (o3 : Obj) (o4 : Obj) (o5 : Obj) (o6 : Obj) (h : (((((((w.alloc o0).alloc o1).alloc o2).alloc o3).alloc o4).alloc o5).alloc o6).grownBy w1 (some b)) : w.grownBy w1 (some b) :=
  (((((((World.grownBy_alloc w o0 (some b)).trans (World.grownBy_alloc _ o1 (some b))).trans (World.grownBy_alloc _ o2 (some b))).trans (World.grownBy_alloc _ o3 (some b))).trans (World.grownBy_alloc _ o4 (some b))).trans (World.grownBy_alloc _ o5 (some b))).trans (World.grownBy_alloc _ o6 (some b))).trans h
/-- What peek leaves and hands back. -/
def PkP (w w' : World) (b T : Nat) (pre post : List Value) (s : ByteArray) (c : Sc) (y x : LSt) (e : Ending) : Prop := match c with
  | .eof => e = .returned (.tuple #[tok0, .nilIface]) ∧ LexOut w w' b T pre post s .nilIface x
  | .bad => ∃ ev, ErrV ev ∧ e = .returned (.tuple #[tok0, ev]) ∧ LexOut w w' b T pre post s ev x
  | .tok k => e = .returned (.tuple #[tokV k (s.extract y.st.toNat y.p.toNat) y, .nilIface]) ∧ LexOut w w' b T pre post s .nilIface x
set_option maxRecDepth 100000 in
set_option maxHeartbeats 4000000 in
theorem peek_calls (w : World) (b T : Nat) (pre post : List Value) (s : ByteArray) (x : LSt) (h : LX w b T pre post s .nilIface x) (hk : LGd s x) (c : Sc) (y : LSt) (hc : scanF s (s.size + 1) x = (c, y)) :
    Calls Tryd.prog 24 #[.pointer (some ⟨b, pre.length, none⟩)] w fun e w' => PkP w w' b T pre post s c y x e := by
  have HL := Aside0.mk h
  have HK := Aside0.mk hk
  have HC := Aside0.mk hc
  have c2 := h.lex.c2
  have c3 := h.lex.c3
  have c4 := h.lex.c4
  have c5 := h.lex.c5
  have c6 := h.lex.c6
  have hlt := h.lex.lt
  have n0 : ¬ b = w.heap.size := by omega
  have n1 : ¬ b = w.heap.size + 1 := by omega
  have n2 : ¬ b = w.heap.size + 1 + 1 := by omega
  have m2 : ¬ b = w.heap.size + 2 := by omega
  have q2 : ¬ w.heap.size + 2 = b := by omega
  have l2 : b < w.heap.size + 1 + 1 := by omega
  have k2 : b < w.heap.size + 2 := by omega
  have n3 : ¬ b = w.heap.size + 1 + 1 + 1 := by omega
  have m3 : ¬ b = w.heap.size + 3 := by omega
  have q3 : ¬ w.heap.size + 3 = b := by omega
  have l3 : b < w.heap.size + 1 + 1 + 1 := by omega
  have k3 : b < w.heap.size + 3 := by omega
  have n4 : ¬ b = w.heap.size + 1 + 1 + 1 + 1 := by omega
  have m4 : ¬ b = w.heap.size + 4 := by omega
  have q4 : ¬ w.heap.size + 4 = b := by omega
  have l4 : b < w.heap.size + 1 + 1 + 1 + 1 := by omega
  have k4 : b < w.heap.size + 4 := by omega
  have n5 : ¬ b = w.heap.size + 1 + 1 + 1 + 1 + 1 := by omega
  have m5 : ¬ b = w.heap.size + 5 := by omega
  have q5 : ¬ w.heap.size + 5 = b := by omega
  have l5 : b < w.heap.size + 1 + 1 + 1 + 1 + 1 := by omega
  have k5 : b < w.heap.size + 5 := by omega
  have n6 : ¬ b = w.heap.size + 1 + 1 + 1 + 1 + 1 + 1 := by omega
  have m6 : ¬ b = w.heap.size + 6 := by omega
  have q6 : ¬ w.heap.size + 6 = b := by omega
  have l6 : b < w.heap.size + 1 + 1 + 1 + 1 + 1 + 1 := by omega
  have k6 : b < w.heap.size + 6 := by omega
  clear h hk hc
  have hmf : ∀ (fn : Fn) (first cap : Array Value) (w : World), (Instr.makeFunc fn first cap).run Tryd.prog w = .ok (.func fn first cap) w := fun _ _ _ _ => rfl
  go_enter_defers Tryd.func24, Tryd.ntmps24
  go_wp2_with fail
  -- GEN
  refine (scanT_calls _ b T pre post s x (((((((HL.out.alloc _).alloc _).alloc _).alloc _).alloc _).alloc _).alloc _) HK.out).mono ?_
  rw [HC.out]
  rintro e w1 hP
  cases c with
  | eof =>
    obtain ⟨rfl, hO⟩ := hP
    have HO := Aside0.mk hO
    clear hO
    unfold tok0
    have HB := Aside0.mk (pk_heap w (.cells #[.pointer (some ⟨b, pre.length, none⟩)] 60) (.cells #[.int .i64 0, .string ⟨#[]⟩, .int .i64 0, .int .i64 0, .int .i64 0, .int .i64 0] 56) (.cells #[.int .i64 x.st] 3) (.cells #[.int .i64 x.p] 3) (.cells #[.int .i64 x.wd] 3) (.cells #[.int .i64 x.cl] 3) (.cells #[.int .i64 x.cs] 3))
    have HBK : Aside0 (∀ i ob, (((((((w.alloc (.cells #[.pointer (some ⟨b, pre.length, none⟩)] 60)).alloc (.cells #[.int .i64 0, .string ⟨#[]⟩, .int .i64 0, .int .i64 0, .int .i64 0, .int .i64 0] 56)).alloc (.cells #[.int .i64 x.st] 3)).alloc (.cells #[.int .i64 x.p] 3)).alloc (.cells #[.int .i64 x.wd] 3)).alloc (.cells #[.int .i64 x.cl] 3)).alloc (.cells #[.int .i64 x.cs] 3)).heap[i]? = some ob → ¬ i = b → w1.heap[i]? = some ob) := ⟨fun i ob hi hne => (HO.out.grown.block i (Array.getElem?_eq_some_iff.1 hi).1 (by intro e; injection e with e; omega)).trans hi⟩
    have HR1 := Aside0.mk (HBK.out _ _ HB.out.2.1 (by omega))
    have HG1 := Aside0.mk (HBK.out _ _ HB.out.1 (by omega))
    have HG0 := Aside0.mk (HBK.out _ _ HB.out.2.2.1 (by omega))
    have HG2 := Aside0.mk (HBK.out _ _ HB.out.2.2.2.1 (by omega))
    have HG3 := Aside0.mk (HBK.out _ _ HB.out.2.2.2.2.1 (by omega))
    have HG4 := Aside0.mk (HBK.out _ _ HB.out.2.2.2.2.2.1 (by omega))
    have HG5 := Aside0.mk (HBK.out _ _ HB.out.2.2.2.2.2.2 (by omega))
    obtain ⟨hcz, hfz⟩ := cells_in HR1.out
    have z0 := hcz 0
    have z1 := hcz 1
    have z2 := hcz 2
    have z3 := hcz 3
    have z4 := hcz 4
    have z5 := hcz 5
    simp only [List.getElem?_toArray, List.getElem?_cons_zero, List.getElem?_cons_succ] at z0 z1 z2 z3 z4 z5
    clear hcz
    have HL6 : Aside0 (LexAt ((((((w1.setCell ⟨w.heap.size + 1, 0, none⟩ (.int .i64 0)).setCell ⟨w.heap.size + 1, 1, none⟩ (.string ⟨#[]⟩)).setCell ⟨w.heap.size + 1, 2, none⟩ (.int .i64 0)).setCell ⟨w.heap.size + 1, 3, none⟩ (.int .i64 0)).setCell ⟨w.heap.size + 1, 4, none⟩ (.int .i64 0)).setCell ⟨w.heap.size + 1, 5, none⟩ (.int .i64 0)) b T pre post s .nilIface y) := ⟨(((((HO.out.lex.other n1 0 (.int .i64 0)).other n1 1 (.string ⟨#[]⟩)).other n1 2 (.int .i64 0)).other n1 3 (.int .i64 0)).other n1 4 (.int .i64 0)).other n1 5 (.int .i64 0)⟩
    have H8 := Aside0.mk (old_tok HR1.out (.int .i64 0) (.string ⟨#[]⟩) (.int .i64 0) (.int .i64 0) (.int .i64 0) (.int .i64 0))
    have HKP : Aside0 (∀ i, ¬ i = w.heap.size + 1 → ((((((w1.setCell ⟨w.heap.size + 1, 0, none⟩ (.int .i64 0)).setCell ⟨w.heap.size + 1, 1, none⟩ (.string ⟨#[]⟩)).setCell ⟨w.heap.size + 1, 2, none⟩ (.int .i64 0)).setCell ⟨w.heap.size + 1, 3, none⟩ (.int .i64 0)).setCell ⟨w.heap.size + 1, 4, none⟩ (.int .i64 0)).setCell ⟨w.heap.size + 1, 5, none⟩ (.int .i64 0)).heap[i]? = w1.heap[i]?) := ⟨fun i hi => by rw [Below.heap_setCell _ _ _ _ (by show i ≠ w.heap.size + 1; omega), Below.heap_setCell _ _ _ _ (by show i ≠ w.heap.size + 1; omega), Below.heap_setCell _ _ _ _ (by show i ≠ w.heap.size + 1; omega), Below.heap_setCell _ _ _ _ (by show i ≠ w.heap.size + 1; omega), Below.heap_setCell _ _ _ _ (by show i ≠ w.heap.size + 1; omega), Below.heap_setCell _ _ _ _ (by show i ≠ w.heap.size + 1; omega)]⟩
    have HGR : Aside0 (w.grownBy ((((((w1.setCell ⟨w.heap.size + 1, 0, none⟩ (.int .i64 0)).setCell ⟨w.heap.size + 1, 1, none⟩ (.string ⟨#[]⟩)).setCell ⟨w.heap.size + 1, 2, none⟩ (.int .i64 0)).setCell ⟨w.heap.size + 1, 3, none⟩ (.int .i64 0)).setCell ⟨w.heap.size + 1, 4, none⟩ (.int .i64 0)).setCell ⟨w.heap.size + 1, 5, none⟩ (.int .i64 0)) (some b)) := ⟨grown_new (grown_new (grown_new (grown_new (grown_new (grown_new (pk_grown w w1 b (.cells #[.pointer (some ⟨b, pre.length, none⟩)] 60) (.cells #[.int .i64 0, .string ⟨#[]⟩, .int .i64 0, .int .i64 0, .int .i64 0, .int .i64 0] 56) (.cells #[.int .i64 x.st] 3) (.cells #[.int .i64 x.p] 3) (.cells #[.int .i64 x.wd] 3) (.cells #[.int .i64 x.cl] 3) (.cells #[.int .i64 x.cs] 3) HO.out.grown) (by omega) 0 (.int .i64 0)) (by omega) 1 (.string ⟨#[]⟩)) (by omega) 2 (.int .i64 0)) (by omega) 3 (.int .i64 0)) (by omega) 4 (.int .i64 0)) (by omega) 5 (.int .i64 0)⟩
    clear HB HBK
    go_wp2
    generalize ((((((w1.setCell ⟨w.heap.size + 1, 0, none⟩ (.int .i64 0)).setCell ⟨w.heap.size + 1, 1, none⟩ (.string ⟨#[]⟩)).setCell ⟨w.heap.size + 1, 2, none⟩ (.int .i64 0)).setCell ⟨w.heap.size + 1, 3, none⟩ (.int .i64 0)).setCell ⟨w.heap.size + 1, 4, none⟩ (.int .i64 0)).setCell ⟨w.heap.size + 1, 5, none⟩ (.int .i64 0)) = W6 at HL6 H8 HKP HGR ⊢
    refine leaves_cons (f := 36) (args := #[.pointer (some ⟨w.heap.size + 1 + 1, 0, none⟩), .pointer (some ⟨w.heap.size, 0, none⟩), .pointer (some ⟨w.heap.size + 1 + 1 + 1, 0, none⟩), .pointer (some ⟨w.heap.size + 1 + 1 + 1 + 1, 0, none⟩), .pointer (some ⟨w.heap.size + 1 + 1 + 1 + 1 + 1, 0, none⟩), .pointer (some ⟨w.heap.size + 1 + 1 + 1 + 1 + 1 + 1, 0, none⟩)]) (by simp) (by simp [go_sem]) ?_
    refine (peek1_calls W6 b T pre post s .nilIface x y (w.heap.size + 1 + 1) (w.heap.size) (w.heap.size + 1 + 1 + 1) (w.heap.size + 1 + 1 + 1 + 1) (w.heap.size + 1 + 1 + 1 + 1 + 1) (w.heap.size + 1 + 1 + 1 + 1 + 1 + 1) HL6.out ((Lib.cell_of_heap (((HKP.out _ (by omega))).trans HG1.out) 0).trans rfl) ((Lib.cell_of_heap (((HKP.out _ (by omega))).trans HG0.out) 0).trans rfl) ((Lib.cell_of_heap (((HKP.out _ (by omega))).trans HG2.out) 0).trans rfl) ((Lib.cell_of_heap (((HKP.out _ (by omega))).trans HG3.out) 0).trans rfl) ((Lib.cell_of_heap (((HKP.out _ (by omega))).trans HG4.out) 0).trans rfl) ((Lib.cell_of_heap (((HKP.out _ (by omega))).trans HG5.out) 0).trans rfl) (by omega) (by omega) (by omega) (by omega) (by omega) (by omega)).mono ?_
    rintro e u' w2 ⟨rfl, rfl, hO2⟩
    have HRR := (hO2.grown.block _ (Array.getElem?_eq_some_iff.1 H8.out).1 (by intro e; injection e with e; omega)).trans H8.out
    obtain ⟨hc8, _⟩ := cells_in HRR
    have r0 := hc8 0
    have r1 := hc8 1
    have r2 := hc8 2
    have r3 := hc8 3
    have r4 := hc8 4
    have r5 := hc8 5
    simp only [List.getElem?_toArray, List.getElem?_cons_zero, List.getElem?_cons_succ] at r0 r1 r2 r3 r4 r5
    exact ⟨.tuple #[.agg #[.int .i64 0, .string ⟨#[]⟩, .int .i64 0, .int .i64 0, .int .i64 0, .int .i64 0], .nilIface], by simp [results, Tryd.results24, go_sem, r0, r1, r2, r3, r4, r5], ⟨rfl, ⟨hO2.lex, HGR.out.trans hO2.grown⟩⟩⟩
  | bad =>
    obtain ⟨ev, hev, rfl, hO⟩ := hP
    have HO := Aside0.mk hO
    clear hO
    unfold tok0
    have HB := Aside0.mk (pk_heap w (.cells #[.pointer (some ⟨b, pre.length, none⟩)] 60) (.cells #[.int .i64 0, .string ⟨#[]⟩, .int .i64 0, .int .i64 0, .int .i64 0, .int .i64 0] 56) (.cells #[.int .i64 x.st] 3) (.cells #[.int .i64 x.p] 3) (.cells #[.int .i64 x.wd] 3) (.cells #[.int .i64 x.cl] 3) (.cells #[.int .i64 x.cs] 3))
    have HBK : Aside0 (∀ i ob, (((((((w.alloc (.cells #[.pointer (some ⟨b, pre.length, none⟩)] 60)).alloc (.cells #[.int .i64 0, .string ⟨#[]⟩, .int .i64 0, .int .i64 0, .int .i64 0, .int .i64 0] 56)).alloc (.cells #[.int .i64 x.st] 3)).alloc (.cells #[.int .i64 x.p] 3)).alloc (.cells #[.int .i64 x.wd] 3)).alloc (.cells #[.int .i64 x.cl] 3)).alloc (.cells #[.int .i64 x.cs] 3)).heap[i]? = some ob → ¬ i = b → w1.heap[i]? = some ob) := ⟨fun i ob hi hne => (HO.out.grown.block i (Array.getElem?_eq_some_iff.1 hi).1 (by intro e; injection e with e; omega)).trans hi⟩
    have HR1 := Aside0.mk (HBK.out _ _ HB.out.2.1 (by omega))
    have HG1 := Aside0.mk (HBK.out _ _ HB.out.1 (by omega))
    have HG0 := Aside0.mk (HBK.out _ _ HB.out.2.2.1 (by omega))
    have HG2 := Aside0.mk (HBK.out _ _ HB.out.2.2.2.1 (by omega))
    have HG3 := Aside0.mk (HBK.out _ _ HB.out.2.2.2.2.1 (by omega))
    have HG4 := Aside0.mk (HBK.out _ _ HB.out.2.2.2.2.2.1 (by omega))
    have HG5 := Aside0.mk (HBK.out _ _ HB.out.2.2.2.2.2.2 (by omega))
    obtain ⟨hcz, hfz⟩ := cells_in HR1.out
    have z0 := hcz 0
    have z1 := hcz 1
    have z2 := hcz 2
    have z3 := hcz 3
    have z4 := hcz 4
    have z5 := hcz 5
    simp only [List.getElem?_toArray, List.getElem?_cons_zero, List.getElem?_cons_succ] at z0 z1 z2 z3 z4 z5
    clear hcz
    have HL6 : Aside0 (LexAt ((((((w1.setCell ⟨w.heap.size + 1, 0, none⟩ (.int .i64 0)).setCell ⟨w.heap.size + 1, 1, none⟩ (.string ⟨#[]⟩)).setCell ⟨w.heap.size + 1, 2, none⟩ (.int .i64 0)).setCell ⟨w.heap.size + 1, 3, none⟩ (.int .i64 0)).setCell ⟨w.heap.size + 1, 4, none⟩ (.int .i64 0)).setCell ⟨w.heap.size + 1, 5, none⟩ (.int .i64 0)) b T pre post s ev y) := ⟨(((((HO.out.lex.other n1 0 (.int .i64 0)).other n1 1 (.string ⟨#[]⟩)).other n1 2 (.int .i64 0)).other n1 3 (.int .i64 0)).other n1 4 (.int .i64 0)).other n1 5 (.int .i64 0)⟩
    have H8 := Aside0.mk (old_tok HR1.out (.int .i64 0) (.string ⟨#[]⟩) (.int .i64 0) (.int .i64 0) (.int .i64 0) (.int .i64 0))
    have HKP : Aside0 (∀ i, ¬ i = w.heap.size + 1 → ((((((w1.setCell ⟨w.heap.size + 1, 0, none⟩ (.int .i64 0)).setCell ⟨w.heap.size + 1, 1, none⟩ (.string ⟨#[]⟩)).setCell ⟨w.heap.size + 1, 2, none⟩ (.int .i64 0)).setCell ⟨w.heap.size + 1, 3, none⟩ (.int .i64 0)).setCell ⟨w.heap.size + 1, 4, none⟩ (.int .i64 0)).setCell ⟨w.heap.size + 1, 5, none⟩ (.int .i64 0)).heap[i]? = w1.heap[i]?) := ⟨fun i hi => by rw [Below.heap_setCell _ _ _ _ (by show i ≠ w.heap.size + 1; omega), Below.heap_setCell _ _ _ _ (by show i ≠ w.heap.size + 1; omega), Below.heap_setCell _ _ _ _ (by show i ≠ w.heap.size + 1; omega), Below.heap_setCell _ _ _ _ (by show i ≠ w.heap.size + 1; omega), Below.heap_setCell _ _ _ _ (by show i ≠ w.heap.size + 1; omega), Below.heap_setCell _ _ _ _ (by show i ≠ w.heap.size + 1; omega)]⟩
    have HGR : Aside0 (w.grownBy ((((((w1.setCell ⟨w.heap.size + 1, 0, none⟩ (.int .i64 0)).setCell ⟨w.heap.size + 1, 1, none⟩ (.string ⟨#[]⟩)).setCell ⟨w.heap.size + 1, 2, none⟩ (.int .i64 0)).setCell ⟨w.heap.size + 1, 3, none⟩ (.int .i64 0)).setCell ⟨w.heap.size + 1, 4, none⟩ (.int .i64 0)).setCell ⟨w.heap.size + 1, 5, none⟩ (.int .i64 0)) (some b)) := ⟨grown_new (grown_new (grown_new (grown_new (grown_new (grown_new (pk_grown w w1 b (.cells #[.pointer (some ⟨b, pre.length, none⟩)] 60) (.cells #[.int .i64 0, .string ⟨#[]⟩, .int .i64 0, .int .i64 0, .int .i64 0, .int .i64 0] 56) (.cells #[.int .i64 x.st] 3) (.cells #[.int .i64 x.p] 3) (.cells #[.int .i64 x.wd] 3) (.cells #[.int .i64 x.cl] 3) (.cells #[.int .i64 x.cs] 3) HO.out.grown) (by omega) 0 (.int .i64 0)) (by omega) 1 (.string ⟨#[]⟩)) (by omega) 2 (.int .i64 0)) (by omega) 3 (.int .i64 0)) (by omega) 4 (.int .i64 0)) (by omega) 5 (.int .i64 0)⟩
    clear HB HBK
    go_wp2
    generalize ((((((w1.setCell ⟨w.heap.size + 1, 0, none⟩ (.int .i64 0)).setCell ⟨w.heap.size + 1, 1, none⟩ (.string ⟨#[]⟩)).setCell ⟨w.heap.size + 1, 2, none⟩ (.int .i64 0)).setCell ⟨w.heap.size + 1, 3, none⟩ (.int .i64 0)).setCell ⟨w.heap.size + 1, 4, none⟩ (.int .i64 0)).setCell ⟨w.heap.size + 1, 5, none⟩ (.int .i64 0)) = W6 at HL6 H8 HKP HGR ⊢
    refine leaves_cons (f := 36) (args := #[.pointer (some ⟨w.heap.size + 1 + 1, 0, none⟩), .pointer (some ⟨w.heap.size, 0, none⟩), .pointer (some ⟨w.heap.size + 1 + 1 + 1, 0, none⟩), .pointer (some ⟨w.heap.size + 1 + 1 + 1 + 1, 0, none⟩), .pointer (some ⟨w.heap.size + 1 + 1 + 1 + 1 + 1, 0, none⟩), .pointer (some ⟨w.heap.size + 1 + 1 + 1 + 1 + 1 + 1, 0, none⟩)]) (by simp) (by simp [go_sem]) ?_
    refine (peek1_calls W6 b T pre post s ev x y (w.heap.size + 1 + 1) (w.heap.size) (w.heap.size + 1 + 1 + 1) (w.heap.size + 1 + 1 + 1 + 1) (w.heap.size + 1 + 1 + 1 + 1 + 1) (w.heap.size + 1 + 1 + 1 + 1 + 1 + 1) HL6.out ((Lib.cell_of_heap (((HKP.out _ (by omega))).trans HG1.out) 0).trans rfl) ((Lib.cell_of_heap (((HKP.out _ (by omega))).trans HG0.out) 0).trans rfl) ((Lib.cell_of_heap (((HKP.out _ (by omega))).trans HG2.out) 0).trans rfl) ((Lib.cell_of_heap (((HKP.out _ (by omega))).trans HG3.out) 0).trans rfl) ((Lib.cell_of_heap (((HKP.out _ (by omega))).trans HG4.out) 0).trans rfl) ((Lib.cell_of_heap (((HKP.out _ (by omega))).trans HG5.out) 0).trans rfl) (by omega) (by omega) (by omega) (by omega) (by omega) (by omega)).mono ?_
    rintro e u' w2 ⟨rfl, rfl, hO2⟩
    have HRR := (hO2.grown.block _ (Array.getElem?_eq_some_iff.1 H8.out).1 (by intro e; injection e with e; omega)).trans H8.out
    obtain ⟨hc8, _⟩ := cells_in HRR
    have r0 := hc8 0
    have r1 := hc8 1
    have r2 := hc8 2
    have r3 := hc8 3
    have r4 := hc8 4
    have r5 := hc8 5
    simp only [List.getElem?_toArray, List.getElem?_cons_zero, List.getElem?_cons_succ] at r0 r1 r2 r3 r4 r5
    exact ⟨.tuple #[.agg #[.int .i64 0, .string ⟨#[]⟩, .int .i64 0, .int .i64 0, .int .i64 0, .int .i64 0], ev], by simp [results, Tryd.results24, go_sem, r0, r1, r2, r3, r4, r5], ⟨ev, hev, rfl, ⟨hO2.lex, HGR.out.trans hO2.grown⟩⟩⟩
  | tok k =>
    obtain ⟨rfl, hO⟩ := hP
    have HO := Aside0.mk hO
    clear hO
    unfold tokV
    have HB := Aside0.mk (pk_heap w (.cells #[.pointer (some ⟨b, pre.length, none⟩)] 60) (.cells #[.int .i64 0, .string ⟨#[]⟩, .int .i64 0, .int .i64 0, .int .i64 0, .int .i64 0] 56) (.cells #[.int .i64 x.st] 3) (.cells #[.int .i64 x.p] 3) (.cells #[.int .i64 x.wd] 3) (.cells #[.int .i64 x.cl] 3) (.cells #[.int .i64 x.cs] 3))
    have HBK : Aside0 (∀ i ob, (((((((w.alloc (.cells #[.pointer (some ⟨b, pre.length, none⟩)] 60)).alloc (.cells #[.int .i64 0, .string ⟨#[]⟩, .int .i64 0, .int .i64 0, .int .i64 0, .int .i64 0] 56)).alloc (.cells #[.int .i64 x.st] 3)).alloc (.cells #[.int .i64 x.p] 3)).alloc (.cells #[.int .i64 x.wd] 3)).alloc (.cells #[.int .i64 x.cl] 3)).alloc (.cells #[.int .i64 x.cs] 3)).heap[i]? = some ob → ¬ i = b → w1.heap[i]? = some ob) := ⟨fun i ob hi hne => (HO.out.grown.block i (Array.getElem?_eq_some_iff.1 hi).1 (by intro e; injection e with e; omega)).trans hi⟩
    have HR1 := Aside0.mk (HBK.out _ _ HB.out.2.1 (by omega))
    have HG1 := Aside0.mk (HBK.out _ _ HB.out.1 (by omega))
    have HG0 := Aside0.mk (HBK.out _ _ HB.out.2.2.1 (by omega))
    have HG2 := Aside0.mk (HBK.out _ _ HB.out.2.2.2.1 (by omega))
    have HG3 := Aside0.mk (HBK.out _ _ HB.out.2.2.2.2.1 (by omega))
    have HG4 := Aside0.mk (HBK.out _ _ HB.out.2.2.2.2.2.1 (by omega))
    have HG5 := Aside0.mk (HBK.out _ _ HB.out.2.2.2.2.2.2 (by omega))
    obtain ⟨hcz, hfz⟩ := cells_in HR1.out
    have z0 := hcz 0
    have z1 := hcz 1
    have z2 := hcz 2
    have z3 := hcz 3
    have z4 := hcz 4
    have z5 := hcz 5
    simp only [List.getElem?_toArray, List.getElem?_cons_zero, List.getElem?_cons_succ] at z0 z1 z2 z3 z4 z5
    clear hcz
    have HL6 : Aside0 (LexAt ((((((w1.setCell ⟨w.heap.size + 1, 0, none⟩ (.int .i64 k)).setCell ⟨w.heap.size + 1, 1, none⟩ (.string (s.extract y.st.toNat y.p.toNat))).setCell ⟨w.heap.size + 1, 2, none⟩ (.int .i64 y.st)).setCell ⟨w.heap.size + 1, 3, none⟩ (.int .i64 y.p)).setCell ⟨w.heap.size + 1, 4, none⟩ (.int .i64 y.cl)).setCell ⟨w.heap.size + 1, 5, none⟩ (.int .i64 y.cs)) b T pre post s .nilIface (emitS y)) := ⟨(((((HO.out.lex.other n1 0 (.int .i64 k)).other n1 1 (.string (s.extract y.st.toNat y.p.toNat))).other n1 2 (.int .i64 y.st)).other n1 3 (.int .i64 y.p)).other n1 4 (.int .i64 y.cl)).other n1 5 (.int .i64 y.cs)⟩
    have H8 := Aside0.mk (old_tok HR1.out (.int .i64 k) (.string (s.extract y.st.toNat y.p.toNat)) (.int .i64 y.st) (.int .i64 y.p) (.int .i64 y.cl) (.int .i64 y.cs))
    have HKP : Aside0 (∀ i, ¬ i = w.heap.size + 1 → ((((((w1.setCell ⟨w.heap.size + 1, 0, none⟩ (.int .i64 k)).setCell ⟨w.heap.size + 1, 1, none⟩ (.string (s.extract y.st.toNat y.p.toNat))).setCell ⟨w.heap.size + 1, 2, none⟩ (.int .i64 y.st)).setCell ⟨w.heap.size + 1, 3, none⟩ (.int .i64 y.p)).setCell ⟨w.heap.size + 1, 4, none⟩ (.int .i64 y.cl)).setCell ⟨w.heap.size + 1, 5, none⟩ (.int .i64 y.cs)).heap[i]? = w1.heap[i]?) := ⟨fun i hi => by rw [Below.heap_setCell _ _ _ _ (by show i ≠ w.heap.size + 1; omega), Below.heap_setCell _ _ _ _ (by show i ≠ w.heap.size + 1; omega), Below.heap_setCell _ _ _ _ (by show i ≠ w.heap.size + 1; omega), Below.heap_setCell _ _ _ _ (by show i ≠ w.heap.size + 1; omega), Below.heap_setCell _ _ _ _ (by show i ≠ w.heap.size + 1; omega), Below.heap_setCell _ _ _ _ (by show i ≠ w.heap.size + 1; omega)]⟩
    have HGR : Aside0 (w.grownBy ((((((w1.setCell ⟨w.heap.size + 1, 0, none⟩ (.int .i64 k)).setCell ⟨w.heap.size + 1, 1, none⟩ (.string (s.extract y.st.toNat y.p.toNat))).setCell ⟨w.heap.size + 1, 2, none⟩ (.int .i64 y.st)).setCell ⟨w.heap.size + 1, 3, none⟩ (.int .i64 y.p)).setCell ⟨w.heap.size + 1, 4, none⟩ (.int .i64 y.cl)).setCell ⟨w.heap.size + 1, 5, none⟩ (.int .i64 y.cs)) (some b)) := ⟨grown_new (grown_new (grown_new (grown_new (grown_new (grown_new (pk_grown w w1 b (.cells #[.pointer (some ⟨b, pre.length, none⟩)] 60) (.cells #[.int .i64 0, .string ⟨#[]⟩, .int .i64 0, .int .i64 0, .int .i64 0, .int .i64 0] 56) (.cells #[.int .i64 x.st] 3) (.cells #[.int .i64 x.p] 3) (.cells #[.int .i64 x.wd] 3) (.cells #[.int .i64 x.cl] 3) (.cells #[.int .i64 x.cs] 3) HO.out.grown) (by omega) 0 (.int .i64 k)) (by omega) 1 (.string (s.extract y.st.toNat y.p.toNat))) (by omega) 2 (.int .i64 y.st)) (by omega) 3 (.int .i64 y.p)) (by omega) 4 (.int .i64 y.cl)) (by omega) 5 (.int .i64 y.cs)⟩
    clear HB HBK
    go_wp2
    generalize ((((((w1.setCell ⟨w.heap.size + 1, 0, none⟩ (.int .i64 k)).setCell ⟨w.heap.size + 1, 1, none⟩ (.string (s.extract y.st.toNat y.p.toNat))).setCell ⟨w.heap.size + 1, 2, none⟩ (.int .i64 y.st)).setCell ⟨w.heap.size + 1, 3, none⟩ (.int .i64 y.p)).setCell ⟨w.heap.size + 1, 4, none⟩ (.int .i64 y.cl)).setCell ⟨w.heap.size + 1, 5, none⟩ (.int .i64 y.cs)) = W6 at HL6 H8 HKP HGR ⊢
    refine leaves_cons (f := 36) (args := #[.pointer (some ⟨w.heap.size + 1 + 1, 0, none⟩), .pointer (some ⟨w.heap.size, 0, none⟩), .pointer (some ⟨w.heap.size + 1 + 1 + 1, 0, none⟩), .pointer (some ⟨w.heap.size + 1 + 1 + 1 + 1, 0, none⟩), .pointer (some ⟨w.heap.size + 1 + 1 + 1 + 1 + 1, 0, none⟩), .pointer (some ⟨w.heap.size + 1 + 1 + 1 + 1 + 1 + 1, 0, none⟩)]) (by simp) (by simp [go_sem]) ?_
    refine (peek1_calls W6 b T pre post s .nilIface x (emitS y) (w.heap.size + 1 + 1) (w.heap.size) (w.heap.size + 1 + 1 + 1) (w.heap.size + 1 + 1 + 1 + 1) (w.heap.size + 1 + 1 + 1 + 1 + 1) (w.heap.size + 1 + 1 + 1 + 1 + 1 + 1) HL6.out ((Lib.cell_of_heap (((HKP.out _ (by omega))).trans HG1.out) 0).trans rfl) ((Lib.cell_of_heap (((HKP.out _ (by omega))).trans HG0.out) 0).trans rfl) ((Lib.cell_of_heap (((HKP.out _ (by omega))).trans HG2.out) 0).trans rfl) ((Lib.cell_of_heap (((HKP.out _ (by omega))).trans HG3.out) 0).trans rfl) ((Lib.cell_of_heap (((HKP.out _ (by omega))).trans HG4.out) 0).trans rfl) ((Lib.cell_of_heap (((HKP.out _ (by omega))).trans HG5.out) 0).trans rfl) (by omega) (by omega) (by omega) (by omega) (by omega) (by omega)).mono ?_
    rintro e u' w2 ⟨rfl, rfl, hO2⟩
    have HRR := (hO2.grown.block _ (Array.getElem?_eq_some_iff.1 H8.out).1 (by intro e; injection e with e; omega)).trans H8.out
    obtain ⟨hc8, _⟩ := cells_in HRR
    have r0 := hc8 0
    have r1 := hc8 1
    have r2 := hc8 2
    have r3 := hc8 3
    have r4 := hc8 4
    have r5 := hc8 5
    simp only [List.getElem?_toArray, List.getElem?_cons_zero, List.getElem?_cons_succ] at r0 r1 r2 r3 r4 r5
    exact ⟨.tuple #[.agg #[.int .i64 k, .string (s.extract y.st.toNat y.p.toNat), .int .i64 y.st, .int .i64 y.p, .int .i64 y.cl, .int .i64 y.cs], .nilIface], by simp [results, Tryd.results24, go_sem, r0, r1, r2, r3, r4, r5], ⟨rfl, ⟨hO2.lex, HGR.out.trans hO2.grown⟩⟩⟩
end Go.Proofs.YtlpcbmgleecafaaDoor.Q
