/- The lexer's scan. Condition: the library's tables as it lays them, below the lexer's block. -/
import Derived.Test.YtlpcbmgleecafaaDoorHLexG
set_option linter.unusedVariables false
set_option linter.unusedSimpArgs false
namespace Go.Proofs.YtlpcbmgleecafaaDoor.Q
open Go.RowKit Go.Lib Go.Proofs.YtlpcbmgleecafaaDoorW.PrintWords Go.Proofs.YtlpcbmgleecafaaDoorW.PrintLast Go.Proofs.YtlpcbmgleecafaaDoorW.PrintMore
attribute [local go_sem] max2_int min2_int max_two min_two max_three min_three max_four min_four
/-- What a scan comes to. -/
inductive Sc | eof | bad | tok (k : Int)
def Sc.of : Option Int → Sc
  | none => .bad
  | some k => .tok k
/-- One character of a scan: what it decides, or on. -/
def scan1 (s : ByteArray) (x : LSt) : Option (Sc × LSt) :=
  let r := nextR s x.p
  let y := nextS s x
  if r = -1 then some (.eof, y)
  else if r = 123 then some (.tok 1, y)
  else if r = 125 then some (.tok 2, y)
  else if r = 44 then some (.tok 3, y)
  else if r = 61 ∨ r = 33 then some (Sc.of (opF s (backS y)).1, (opF s (backS y)).2)
  else if r = 34 then some (Sc.of (quoF s (backS y)).1, (quoF s (backS y)).2)
  else if resR r = false then some (.tok 9, wordS s (s.size + 1) (backS y))
  else if Lib.isSpaceZ r = true then none
  else some (.bad, y)
def scanF (s : ByteArray) : Nat → LSt → Sc × LSt
  | 0, x => (.bad, x)
  | k + 1, x => match scan1 s x with
    | some z => z
    | none => scanF s k (skipS (nextS s x))
/-- What scan leaves and hands back. -/
def ScP (w w' : World) (b T : Nat) (pre post : List Value) (s : ByteArray) (c : Sc) (y : LSt) (e : Ending) : Prop := match c with
  | .eof => e = .returned (.tuple #[tok0, .nilIface]) ∧ LexOut w w' b T pre post s .nilIface y
  | .bad => ∃ ev, ErrV ev ∧ e = .returned (.tuple #[tok0, ev]) ∧ LexOut w w' b T pre post s ev y
  | .tok k => e = .returned (.tuple #[tokV k (s.extract y.st.toNat y.p.toNat) y, .nilIface]) ∧ LexOut w w' b T pre post s .nilIface (emitS y)
/-- Two blocks of scan's own: the result's, of zeros, and the token's. -/
structure ScT (w W : World) (b T : Nat) (pre post : List Value) (s : ByteArray) (err : Value) (y : LSt) (tv : Array Value) : Prop where
  lx : LX W b T pre post s err y
  gr : w.grownBy W (some b)
  blk : W.heap[w.heap.size]? = some (.cells #[.int .i64 0, .string ⟨#[]⟩, .int .i64 0, .int .i64 0, .int .i64 0, .int .i64 0] 56 (0, 0))
  tok : W.heap[w.heap.size + 1]? = some (.cells tv 56 (0, 0))
  hb : b < w.heap.size
section
variable {w W w' : World} {b T : Nat} {pre post : List Value} {s : ByteArray} {err err' : Value} {x y : LSt} {tv : Array Value}
theorem ScT.out (h : ScT w W b T pre post s err x tv) (hO : LexOut W w' b T pre post s err' y) : ScT w w' b T pre post s err' y tv :=
  ⟨h.lx.out hO, h.gr.trans hO.grown, (hO.grown.block _ (Array.getElem?_eq_some_iff.1 h.blk).1 (by intro e; injection e with e; have := h.hb; omega)).trans h.blk, (hO.grown.block _ (Array.getElem?_eq_some_iff.1 h.tok).1 (by intro e; injection e with e; have := h.hb; omega)).trans h.tok, h.hb⟩
theorem ScT.below (h : ScT w W b T pre post s err x tv) (hb : Below W.heap.size W w') : ScT w w' b T pre post s err x tv :=
  h.out ⟨h.lx.lex.below hb, grownBy_below (World.grownBy.refl W (some b)) hb⟩
theorem ScT.facts (h : ScT w W b T pre post s err x tv) : (∀ j, W.cell? ⟨w.heap.size + 1, j, none⟩ = tv[j]?) ∧ (∀ j, W.frozen? ⟨w.heap.size + 1, j, none⟩ = false) ∧ (∀ j, W.cell? ⟨w.heap.size, j, none⟩ = (#[.int .i64 0, .string ⟨#[]⟩, .int .i64 0, .int .i64 0, .int .i64 0, .int .i64 0] : Array Value)[j]?) ∧ (∀ j, W.frozen? ⟨w.heap.size, j, none⟩ = false) := by
  obtain ⟨a1, a2⟩ := cells_in h.tok
  obtain ⟨b1, b2⟩ := cells_in h.blk
  exact ⟨a1, a2, b1, b2⟩
theorem ScT.fin (h : ScT w W b T pre post s err y tv) (v0 v1 v2 v3 v4 v5 : Value) :
    LexOut w ((((((W.setCell ⟨w.heap.size, 0, none⟩ v0).setCell ⟨w.heap.size, 1, none⟩ v1).setCell ⟨w.heap.size, 2, none⟩ v2).setCell ⟨w.heap.size, 3, none⟩ v3).setCell ⟨w.heap.size, 4, none⟩ v4).setCell ⟨w.heap.size, 5, none⟩ v5) b T pre post s err y ∧
    ((((((W.setCell ⟨w.heap.size, 0, none⟩ v0).setCell ⟨w.heap.size, 1, none⟩ v1).setCell ⟨w.heap.size, 2, none⟩ v2).setCell ⟨w.heap.size, 3, none⟩ v3).setCell ⟨w.heap.size, 4, none⟩ v4).setCell ⟨w.heap.size, 5, none⟩ v5).heap[w.heap.size]? = some (.cells #[v0, v1, v2, v3, v4, v5] 56 (0, 0)) :=
  TZ.set6 ⟨h.lx.lex, h.gr, h.blk⟩ h.hb v0 v1 v2 v3 v4 v5
theorem ScT.put1 (h : ScT w W b T pre post s err y tv) (o : Nat) (v : Value) (tv' : Array Value) (ht : (W.setCell ⟨w.heap.size + 1, o, none⟩ v).heap[w.heap.size + 1]? = some (.cells tv' 56 (0, 0))) : ScT w (W.setCell ⟨w.heap.size + 1, o, none⟩ v) b T pre post s err y tv' := by
  have n3 : ¬ b = w.heap.size + 1 := by have := h.hb; omega
  have hG : W.grownBy (W.setCell ⟨w.heap.size + 1, o, none⟩ v) (some (w.heap.size + 1)) := grownBy_setB (World.grownBy.refl W _) o v
  refine ⟨⟨h.lx.lex.other n3 o v, ?_⟩, grown_new h.gr (Nat.le_succ _) o v, (Below.heap_setCell W ⟨w.heap.size + 1, o, none⟩ v _ (by show w.heap.size ≠ w.heap.size + 1; omega)).trans h.blk, ht, h.hb⟩
  obtain ⟨w0, k1, k2, k3⟩ := h.lx.tb
  exact ⟨w0, k1, k2, k3.setCell (by show w0.heap.size ≤ w.heap.size + 1; have := h.hb; omega) _⟩
theorem ScT.put (h : ScT w W b T pre post s err y tv) (hz : tv.size = 6) (v0 v1 v2 v3 v4 v5 : Value) :
    ScT w ((((((W.setCell ⟨w.heap.size + 1, 0, none⟩ v0).setCell ⟨w.heap.size + 1, 1, none⟩ v1).setCell ⟨w.heap.size + 1, 2, none⟩ v2).setCell ⟨w.heap.size + 1, 3, none⟩ v3).setCell ⟨w.heap.size + 1, 4, none⟩ v4).setCell ⟨w.heap.size + 1, 5, none⟩ v5) b T pre post s err y #[v0, v1, v2, v3, v4, v5] := by
  have st : ∀ {W : World} {tv : Array Value}, ScT w W b T pre post s err y tv → ∀ (o : Nat) (v : Value), ScT w (W.setCell ⟨w.heap.size + 1, o, none⟩ v) b T pre post s err y (tv.setIfInBounds o v) := fun {W} {tv} h o v => h.put1 o v _ (by
    simp [World.setCell, Array.getElem?_modify, h.tok])
  have := st (st (st (st (st (st h 0 v0) 1 v1) 2 v2) 3 v3) 4 v4) 5 v5
  have e : ((((((tv.setIfInBounds 0 v0).setIfInBounds 1 v1).setIfInBounds 2 v2).setIfInBounds 3 v3).setIfInBounds 4 v4).setIfInBounds 5 v5) = #[v0, v1, v2, v3, v4, v5] := by
    clear this st h
    obtain ⟨l⟩ := tv
    match l, hz with
    | [_, _, _, _, _, _], _ => simp
  rw [e] at this
  exact this
theorem ScT.setErr (h : ScT w W b T pre post s err y tv) (ev : Value) : ScT w (W.setCell ⟨b, pre.length + 1, none⟩ ev) b T pre post s ev y tv :=
  h.out ⟨h.lx.lex.set1 ev, grown_set (World.grownBy.refl W _) _ _⟩
theorem posT_calls (w W : World) (b T : Nat) (pre post : List Value) (s : ByteArray) (err : Value) (y : LSt) (tv : Array Value) (h : ScT w W b T pre post s err y tv) :
    Calls Tryd.prog 34 #[.pointer (some ⟨b, pre.length, none⟩)] W fun e w' => e = .returned (posV y) ∧ Aside0 (ScT w w' b T pre post s err y tv) := by
  refine (position_calls W b T pre post s err y h.lx.lex).mono ?_
  rintro e w' ⟨rfl, hB⟩
  exact ⟨rfl, ⟨h.below hB⟩⟩
theorem ScT.start (h : LX w b T pre post s err x) : ScT w ((w.alloc (.cells #[.int .i64 0, .string ⟨#[]⟩, .int .i64 0, .int .i64 0, .int .i64 0, .int .i64 0] 56)).alloc (.cells #[.int .i64 0, .string ⟨#[]⟩, .int .i64 0, .int .i64 0, .int .i64 0, .int .i64 0] 56)) b T pre post s err x #[.int .i64 0, .string ⟨#[]⟩, .int .i64 0, .int .i64 0, .int .i64 0, .int .i64 0] :=
  ⟨(h.alloc _).alloc _, (World.grownBy_alloc w _ (some b)).trans (World.grownBy_alloc _ _ (some b)), by
    show ((w.heap.push _).push _)[w.heap.size]? = _
    rw [Array.getElem?_push_lt (by simp), Array.getElem_push_eq], by
    show ((w.heap.push _).push _)[w.heap.size + 1]? = _
    have : (w.heap.push (.cells #[.int .i64 0, .string ⟨#[]⟩, .int .i64 0, .int .i64 0, .int .i64 0, .int .i64 0] 56)).size = w.heap.size + 1 := by simp
    rw [← this, Array.getElem?_push_size], h.lex.lt⟩
end
theorem has34 : hasR ⟨#[34]⟩ 34 = true := by kernel_rfl
structure ScanAt (w wr : World) (b T : Nat) (pre post : List Value) (s : ByteArray) (x0 y : LSt) (r : Int) : Prop where
  ex : ∃ (x : LSt) (k : Nat), y = nextS s x ∧ r = nextR s x.p ∧ LGd s x ∧ scanF s (s.size + 1) x0 = scanF s (k + 1) x ∧ s.size - x.p.toNat ≤ k
  out : ScT w wr b T pre post s .nilIface y #[.int .i64 0, .string ⟨#[]⟩, .int .i64 0, .int .i64 0, .int .i64 0, .int .i64 0]
set_option maxRecDepth 100000 in
set_option maxHeartbeats 4000000 in
theorem scanT_calls (w : World) (b T : Nat) (pre post : List Value) (s : ByteArray) (x : LSt) (h : LX w b T pre post s .nilIface x) (hk : LGd s x) :
    Calls Tryd.prog 18 #[.pointer (some ⟨b, pre.length, none⟩)] w fun e w' => ScP w w' b T pre post s (scanF s (s.size + 1) x).1 (scanF s (s.size + 1) x).2 e := by
  have HL := Aside0.mk h
  have HK := Aside0.mk hk
  have HS := Aside0.mk (ScT.start h)
  have c1 := (h.alloc (.cells #[.int .i64 0, .string ⟨#[]⟩, .int .i64 0, .int .i64 0, .int .i64 0, .int .i64 0] 56)).lex.c1
  have c1' := ((h.alloc (.cells #[.int .i64 0, .string ⟨#[]⟩, .int .i64 0, .int .i64 0, .int .i64 0, .int .i64 0] 56)).alloc (.cells #[.int .i64 0, .string ⟨#[]⟩, .int .i64 0, .int .i64 0, .int .i64 0, .int .i64 0] 56)).lex.c1
  have hu0 := Tryd.underlying56
  clear h hk
  go_enter Tryd.func18, Tryd.ntmps18
  go_wp2_with fail
  refine (next_calls _ b T pre post s .nilIface x HS.out.lx.lex HK.out.ok HS.out.lx.tb.tbl).mono ?_
  rintro e w1 ⟨rfl, hO⟩
  have HW : Aside0 (ScanAt w w1 b T pre post s x (nextS s x) (nextR s x.p)) := ⟨⟨⟨x, s.size, rfl, rfl, HK.out, rfl, by omega⟩, HS.out.out hO⟩⟩
  clear hO c1 c1' HS
  go_wp2_with fail
  go_loopw [5] (fun v5 wr => ∃ (y : LSt) (r : Int), v5 = .int .i32 r ∧ Aside0 (ScanAt w wr b T pre post s x y r)) (fun v5 wr => wordM wr b (pre.length + 3) s v5)
  case atStart => exact ⟨_, _, rfl, HW⟩
  case round =>
    obtain ⟨y, r, rfl, HR⟩ := hrel
    obtain ⟨x2, k, hy, hr, hg, hw, hm⟩ := HR.out.ex
    clear HW
    rw [show scanF s (k + 1) x2 = (match scan1 s x2 with | some z => z | none => scanF s k (skipS (nextS s x2))) from rfl] at hw
    by_cases h1 : r = -1
    · have HE : Aside0 (scanF s (s.size + 1) x = (.eof, y)) := ⟨by rw [hw]; unfold scan1; simp only [← hr, if_pos h1, hy]⟩
      subst h1
      clear hy hr hg hw hm
      have HT := Aside0.mk HR.out.out
      clear HR
      have c1 := HT.out.lx.lex.c1
      obtain ⟨a1, a2, a3, a4⟩ := HT.out.facts
      have t0 := a1 0
      have t1 := a1 1
      have t2 := a1 2
      have t3 := a1 3
      have t4 := a1 4
      have t5 := a1 5
      have z0 := a3 0
      have z1 := a3 1
      have z2 := a3 2
      have z3 := a3 3
      have z4 := a3 4
      have z5 := a3 5
      simp only [List.getElem?_toArray, List.getElem?_cons_zero, List.getElem?_cons_succ] at t0 t1 t2 t3 t4 t5 z0 z1 z2 z3 z4 z5
      clear a1 a3
      have n1 : ¬ b = w.heap.size := by have := HT.out.hb; omega
      have n2 : ¬ w.heap.size = b := by omega
      have n3 : ¬ b = w.heap.size + 1 := by have := HT.out.hb; omega
      have n4 : ¬ w.heap.size + 1 = b := by omega
      go_wp2_with fail
      go_region_held3 (fun W => W.cell? ⟨w.heap.size + 1, 0, none⟩ = some (.int .i64 0) ∧ W.cell? ⟨w.heap.size + 1, 1, none⟩ = some (.string ⟨#[]⟩) ∧ W.cell? ⟨w.heap.size + 1, 2, none⟩ = some (.int .i64 0) ∧ W.cell? ⟨w.heap.size + 1, 3, none⟩ = some (.int .i64 0) ∧ W.cell? ⟨w.heap.size + 1, 4, none⟩ = some (.int .i64 0) ∧ W.cell? ⟨w.heap.size + 1, 5, none⟩ = some (.int .i64 0) ∧ W.cell? ⟨b, pre.length + 1, none⟩ = some .nilIface) (first | go_keep) (first | fail)
      go_wp2
      have HD := Aside0.mk (HT.out.fin (.int .i64 0) (.string ⟨#[]⟩) (.int .i64 0) (.int .i64 0) (.int .i64 0) (.int .i64 0))
      generalize ((((((wr.setCell ⟨w.heap.size, 0, none⟩ (.int .i64 0)).setCell ⟨w.heap.size, 1, none⟩ (.string ⟨#[]⟩)).setCell ⟨w.heap.size, 2, none⟩ (.int .i64 0)).setCell ⟨w.heap.size, 3, none⟩ (.int .i64 0)).setCell ⟨w.heap.size, 4, none⟩ (.int .i64 0)).setCell ⟨w.heap.size, 5, none⟩ (.int .i64 0)) = W6 at HD ⊢
      obtain ⟨hc8, _⟩ := cells_in HD.out.2
      have r0 := hc8 0
      have r1 := hc8 1
      have r2 := hc8 2
      have r3 := hc8 3
      have r4 := hc8 4
      have r5 := hc8 5
      simp only [List.getElem?_toArray, List.getElem?_cons_zero, List.getElem?_cons_succ] at r0 r1 r2 r3 r4 r5
      exact bodyPost_ret (v := .tuple #[.agg #[.int .i64 0, .string ⟨#[]⟩, .int .i64 0, .int .i64 0, .int .i64 0, .int .i64 0], .nilIface]) (by simp [results, Tryd.results18, go_sem, r0, r1, r2, r3, r4, r5]) rfl (by rw [HE.out]; exact ⟨rfl, (HD.out.1.below (below_drew (Below.refl _ _)))⟩)
    have hrr := nextR_range s x2.p
    rw [← hr] at hrr
    have hg2 : Aside0 (LGd s y) := ⟨by rw [hy]; exact hg.next⟩
    have e1 : (r == -1) = false := beq_eq_false_iff_ne.2 h1
    have e1' : (r != -1) = true := bne_iff_ne.2 h1
    by_cases h2 : r = 123
    · have HE : Aside0 (scanF s (s.size + 1) x = (.tok 1, y)) := ⟨by rw [hw]; unfold scan1; simp only [← hr, if_neg h1, if_pos h2, hy]⟩
      subst h2
      clear hy hr hg hw hm h1 hrr
      have HT := Aside0.mk HR.out.out
      clear HR
      go_wp2_with fail
      refine (emit_calls _ b T pre post s .nilIface y 1 HT.out.lx.lex hg2.out.ok).mono ?_
      rintro e W1 ⟨rfl, hO⟩
      have HT1 := Aside0.mk (HT.out.out hO)
      clear hO
      unfold tokV
      have c1 := HT1.out.lx.lex.c1
      obtain ⟨a1, a2, a3, a4⟩ := HT1.out.facts
      have t0 := a1 0
      have t1 := a1 1
      have t2 := a1 2
      have t3 := a1 3
      have t4 := a1 4
      have t5 := a1 5
      have z0 := a3 0
      have z1 := a3 1
      have z2 := a3 2
      have z3 := a3 3
      have z4 := a3 4
      have z5 := a3 5
      simp only [List.getElem?_toArray, List.getElem?_cons_zero, List.getElem?_cons_succ] at t0 t1 t2 t3 t4 t5 z0 z1 z2 z3 z4 z5
      clear a1 a3
      have n1 : ¬ b = w.heap.size := by have := HT1.out.hb; omega
      have n2 : ¬ w.heap.size = b := by omega
      have n3 : ¬ b = w.heap.size + 1 := by have := HT1.out.hb; omega
      have n4 : ¬ w.heap.size + 1 = b := by omega
      go_wp2_with fail
      have HT2 := Aside0.mk (HT1.out.put rfl (.int .i64 1) (.string (s.extract y.st.toNat y.p.toNat)) (.int .i64 y.st) (.int .i64 y.p) (.int .i64 y.cl) (.int .i64 y.cs))
      generalize ((((((W1.setCell ⟨w.heap.size + 1, 0, none⟩ (.int .i64 1)).setCell ⟨w.heap.size + 1, 1, none⟩ (.string (s.extract y.st.toNat y.p.toNat))).setCell ⟨w.heap.size + 1, 2, none⟩ (.int .i64 y.st)).setCell ⟨w.heap.size + 1, 3, none⟩ (.int .i64 y.p)).setCell ⟨w.heap.size + 1, 4, none⟩ (.int .i64 y.cl)).setCell ⟨w.heap.size + 1, 5, none⟩ (.int .i64 y.cs)) = W2 at HT2 ⊢
      clear c1 t0 t1 t2 t3 t4 t5 z0 z1 z2 z3 z4 z5 a2 a4 n1 n2 n3 n4
      have c1 := HT2.out.lx.lex.c1
      obtain ⟨a1, a2, a3, a4⟩ := HT2.out.facts
      have t0 := a1 0
      have t1 := a1 1
      have t2 := a1 2
      have t3 := a1 3
      have t4 := a1 4
      have t5 := a1 5
      have z0 := a3 0
      have z1 := a3 1
      have z2 := a3 2
      have z3 := a3 3
      have z4 := a3 4
      have z5 := a3 5
      simp only [List.getElem?_toArray, List.getElem?_cons_zero, List.getElem?_cons_succ] at t0 t1 t2 t3 t4 t5 z0 z1 z2 z3 z4 z5
      clear a1 a3
      have n1 : ¬ b = w.heap.size := by have := HT2.out.hb; omega
      have n2 : ¬ w.heap.size = b := by omega
      have n3 : ¬ b = w.heap.size + 1 := by have := HT2.out.hb; omega
      have n4 : ¬ w.heap.size + 1 = b := by omega
      go_wp2_with fail
      go_region_held3 (fun W => W.cell? ⟨w.heap.size + 1, 0, none⟩ = some (.int .i64 1) ∧ W.cell? ⟨w.heap.size + 1, 1, none⟩ = some (.string (s.extract y.st.toNat y.p.toNat)) ∧ W.cell? ⟨w.heap.size + 1, 2, none⟩ = some (.int .i64 y.st) ∧ W.cell? ⟨w.heap.size + 1, 3, none⟩ = some (.int .i64 y.p) ∧ W.cell? ⟨w.heap.size + 1, 4, none⟩ = some (.int .i64 y.cl) ∧ W.cell? ⟨w.heap.size + 1, 5, none⟩ = some (.int .i64 y.cs) ∧ W.cell? ⟨b, pre.length + 1, none⟩ = some .nilIface) (first | go_keep) (first | fail)
      go_wp2
      have HD := Aside0.mk (HT2.out.fin (.int .i64 1) (.string (s.extract y.st.toNat y.p.toNat)) (.int .i64 y.st) (.int .i64 y.p) (.int .i64 y.cl) (.int .i64 y.cs))
      generalize ((((((W2.setCell ⟨w.heap.size, 0, none⟩ (.int .i64 1)).setCell ⟨w.heap.size, 1, none⟩ (.string (s.extract y.st.toNat y.p.toNat))).setCell ⟨w.heap.size, 2, none⟩ (.int .i64 y.st)).setCell ⟨w.heap.size, 3, none⟩ (.int .i64 y.p)).setCell ⟨w.heap.size, 4, none⟩ (.int .i64 y.cl)).setCell ⟨w.heap.size, 5, none⟩ (.int .i64 y.cs)) = W6 at HD ⊢
      obtain ⟨hc8, _⟩ := cells_in HD.out.2
      have r0 := hc8 0
      have r1 := hc8 1
      have r2 := hc8 2
      have r3 := hc8 3
      have r4 := hc8 4
      have r5 := hc8 5
      simp only [List.getElem?_toArray, List.getElem?_cons_zero, List.getElem?_cons_succ] at r0 r1 r2 r3 r4 r5
      exact bodyPost_ret (v := .tuple #[.agg #[.int .i64 1, .string (s.extract y.st.toNat y.p.toNat), .int .i64 y.st, .int .i64 y.p, .int .i64 y.cl, .int .i64 y.cs], .nilIface]) (by simp [results, Tryd.results18, go_sem, r0, r1, r2, r3, r4, r5]) rfl (by rw [HE.out]; exact ⟨rfl, (HD.out.1.below (below_drew (Below.refl _ _)))⟩)
    have f2 : (r == 123) = false := beq_eq_false_iff_ne.2 h2
    by_cases h3 : r = 125
    · have HE : Aside0 (scanF s (s.size + 1) x = (.tok 2, y)) := ⟨by rw [hw]; unfold scan1; simp only [← hr, if_neg h1, if_neg h2, if_pos h3, hy]⟩
      subst h3
      clear hy hr hg hw hm h1 h2 hrr
      have HT := Aside0.mk HR.out.out
      clear HR
      go_wp2_with fail
      refine (emit_calls _ b T pre post s .nilIface y 2 HT.out.lx.lex hg2.out.ok).mono ?_
      rintro e W1 ⟨rfl, hO⟩
      have HT1 := Aside0.mk (HT.out.out hO)
      clear hO
      unfold tokV
      have c1 := HT1.out.lx.lex.c1
      obtain ⟨a1, a2, a3, a4⟩ := HT1.out.facts
      have t0 := a1 0
      have t1 := a1 1
      have t2 := a1 2
      have t3 := a1 3
      have t4 := a1 4
      have t5 := a1 5
      have z0 := a3 0
      have z1 := a3 1
      have z2 := a3 2
      have z3 := a3 3
      have z4 := a3 4
      have z5 := a3 5
      simp only [List.getElem?_toArray, List.getElem?_cons_zero, List.getElem?_cons_succ] at t0 t1 t2 t3 t4 t5 z0 z1 z2 z3 z4 z5
      clear a1 a3
      have n1 : ¬ b = w.heap.size := by have := HT1.out.hb; omega
      have n2 : ¬ w.heap.size = b := by omega
      have n3 : ¬ b = w.heap.size + 1 := by have := HT1.out.hb; omega
      have n4 : ¬ w.heap.size + 1 = b := by omega
      go_wp2_with fail
      have HT2 := Aside0.mk (HT1.out.put rfl (.int .i64 2) (.string (s.extract y.st.toNat y.p.toNat)) (.int .i64 y.st) (.int .i64 y.p) (.int .i64 y.cl) (.int .i64 y.cs))
      generalize ((((((W1.setCell ⟨w.heap.size + 1, 0, none⟩ (.int .i64 2)).setCell ⟨w.heap.size + 1, 1, none⟩ (.string (s.extract y.st.toNat y.p.toNat))).setCell ⟨w.heap.size + 1, 2, none⟩ (.int .i64 y.st)).setCell ⟨w.heap.size + 1, 3, none⟩ (.int .i64 y.p)).setCell ⟨w.heap.size + 1, 4, none⟩ (.int .i64 y.cl)).setCell ⟨w.heap.size + 1, 5, none⟩ (.int .i64 y.cs)) = W2 at HT2 ⊢
      clear c1 t0 t1 t2 t3 t4 t5 z0 z1 z2 z3 z4 z5 a2 a4 n1 n2 n3 n4
      have c1 := HT2.out.lx.lex.c1
      obtain ⟨a1, a2, a3, a4⟩ := HT2.out.facts
      have t0 := a1 0
      have t1 := a1 1
      have t2 := a1 2
      have t3 := a1 3
      have t4 := a1 4
      have t5 := a1 5
      have z0 := a3 0
      have z1 := a3 1
      have z2 := a3 2
      have z3 := a3 3
      have z4 := a3 4
      have z5 := a3 5
      simp only [List.getElem?_toArray, List.getElem?_cons_zero, List.getElem?_cons_succ] at t0 t1 t2 t3 t4 t5 z0 z1 z2 z3 z4 z5
      clear a1 a3
      have n1 : ¬ b = w.heap.size := by have := HT2.out.hb; omega
      have n2 : ¬ w.heap.size = b := by omega
      have n3 : ¬ b = w.heap.size + 1 := by have := HT2.out.hb; omega
      have n4 : ¬ w.heap.size + 1 = b := by omega
      go_wp2_with fail
      go_region_held3 (fun W => W.cell? ⟨w.heap.size + 1, 0, none⟩ = some (.int .i64 2) ∧ W.cell? ⟨w.heap.size + 1, 1, none⟩ = some (.string (s.extract y.st.toNat y.p.toNat)) ∧ W.cell? ⟨w.heap.size + 1, 2, none⟩ = some (.int .i64 y.st) ∧ W.cell? ⟨w.heap.size + 1, 3, none⟩ = some (.int .i64 y.p) ∧ W.cell? ⟨w.heap.size + 1, 4, none⟩ = some (.int .i64 y.cl) ∧ W.cell? ⟨w.heap.size + 1, 5, none⟩ = some (.int .i64 y.cs) ∧ W.cell? ⟨b, pre.length + 1, none⟩ = some .nilIface) (first | go_keep) (first | fail)
      go_wp2
      have HD := Aside0.mk (HT2.out.fin (.int .i64 2) (.string (s.extract y.st.toNat y.p.toNat)) (.int .i64 y.st) (.int .i64 y.p) (.int .i64 y.cl) (.int .i64 y.cs))
      generalize ((((((W2.setCell ⟨w.heap.size, 0, none⟩ (.int .i64 2)).setCell ⟨w.heap.size, 1, none⟩ (.string (s.extract y.st.toNat y.p.toNat))).setCell ⟨w.heap.size, 2, none⟩ (.int .i64 y.st)).setCell ⟨w.heap.size, 3, none⟩ (.int .i64 y.p)).setCell ⟨w.heap.size, 4, none⟩ (.int .i64 y.cl)).setCell ⟨w.heap.size, 5, none⟩ (.int .i64 y.cs)) = W6 at HD ⊢
      obtain ⟨hc8, _⟩ := cells_in HD.out.2
      have r0 := hc8 0
      have r1 := hc8 1
      have r2 := hc8 2
      have r3 := hc8 3
      have r4 := hc8 4
      have r5 := hc8 5
      simp only [List.getElem?_toArray, List.getElem?_cons_zero, List.getElem?_cons_succ] at r0 r1 r2 r3 r4 r5
      exact bodyPost_ret (v := .tuple #[.agg #[.int .i64 2, .string (s.extract y.st.toNat y.p.toNat), .int .i64 y.st, .int .i64 y.p, .int .i64 y.cl, .int .i64 y.cs], .nilIface]) (by simp [results, Tryd.results18, go_sem, r0, r1, r2, r3, r4, r5]) rfl (by rw [HE.out]; exact ⟨rfl, (HD.out.1.below (below_drew (Below.refl _ _)))⟩)
    have f3 : (r == 125) = false := beq_eq_false_iff_ne.2 h3
    by_cases h4 : r = 44
    · have HE : Aside0 (scanF s (s.size + 1) x = (.tok 3, y)) := ⟨by rw [hw]; unfold scan1; simp only [← hr, if_neg h1, if_neg h2, if_neg h3, if_pos h4, hy]⟩
      subst h4
      clear hy hr hg hw hm h1 h2 h3 hrr
      have HT := Aside0.mk HR.out.out
      clear HR
      go_wp2_with fail
      refine (emit_calls _ b T pre post s .nilIface y 3 HT.out.lx.lex hg2.out.ok).mono ?_
      rintro e W1 ⟨rfl, hO⟩
      have HT1 := Aside0.mk (HT.out.out hO)
      clear hO
      unfold tokV
      have c1 := HT1.out.lx.lex.c1
      obtain ⟨a1, a2, a3, a4⟩ := HT1.out.facts
      have t0 := a1 0
      have t1 := a1 1
      have t2 := a1 2
      have t3 := a1 3
      have t4 := a1 4
      have t5 := a1 5
      have z0 := a3 0
      have z1 := a3 1
      have z2 := a3 2
      have z3 := a3 3
      have z4 := a3 4
      have z5 := a3 5
      simp only [List.getElem?_toArray, List.getElem?_cons_zero, List.getElem?_cons_succ] at t0 t1 t2 t3 t4 t5 z0 z1 z2 z3 z4 z5
      clear a1 a3
      have n1 : ¬ b = w.heap.size := by have := HT1.out.hb; omega
      have n2 : ¬ w.heap.size = b := by omega
      have n3 : ¬ b = w.heap.size + 1 := by have := HT1.out.hb; omega
      have n4 : ¬ w.heap.size + 1 = b := by omega
      go_wp2_with fail
      have HT2 := Aside0.mk (HT1.out.put rfl (.int .i64 3) (.string (s.extract y.st.toNat y.p.toNat)) (.int .i64 y.st) (.int .i64 y.p) (.int .i64 y.cl) (.int .i64 y.cs))
      generalize ((((((W1.setCell ⟨w.heap.size + 1, 0, none⟩ (.int .i64 3)).setCell ⟨w.heap.size + 1, 1, none⟩ (.string (s.extract y.st.toNat y.p.toNat))).setCell ⟨w.heap.size + 1, 2, none⟩ (.int .i64 y.st)).setCell ⟨w.heap.size + 1, 3, none⟩ (.int .i64 y.p)).setCell ⟨w.heap.size + 1, 4, none⟩ (.int .i64 y.cl)).setCell ⟨w.heap.size + 1, 5, none⟩ (.int .i64 y.cs)) = W2 at HT2 ⊢
      clear c1 t0 t1 t2 t3 t4 t5 z0 z1 z2 z3 z4 z5 a2 a4 n1 n2 n3 n4
      have c1 := HT2.out.lx.lex.c1
      obtain ⟨a1, a2, a3, a4⟩ := HT2.out.facts
      have t0 := a1 0
      have t1 := a1 1
      have t2 := a1 2
      have t3 := a1 3
      have t4 := a1 4
      have t5 := a1 5
      have z0 := a3 0
      have z1 := a3 1
      have z2 := a3 2
      have z3 := a3 3
      have z4 := a3 4
      have z5 := a3 5
      simp only [List.getElem?_toArray, List.getElem?_cons_zero, List.getElem?_cons_succ] at t0 t1 t2 t3 t4 t5 z0 z1 z2 z3 z4 z5
      clear a1 a3
      have n1 : ¬ b = w.heap.size := by have := HT2.out.hb; omega
      have n2 : ¬ w.heap.size = b := by omega
      have n3 : ¬ b = w.heap.size + 1 := by have := HT2.out.hb; omega
      have n4 : ¬ w.heap.size + 1 = b := by omega
      go_wp2_with fail
      go_region_held3 (fun W => W.cell? ⟨w.heap.size + 1, 0, none⟩ = some (.int .i64 3) ∧ W.cell? ⟨w.heap.size + 1, 1, none⟩ = some (.string (s.extract y.st.toNat y.p.toNat)) ∧ W.cell? ⟨w.heap.size + 1, 2, none⟩ = some (.int .i64 y.st) ∧ W.cell? ⟨w.heap.size + 1, 3, none⟩ = some (.int .i64 y.p) ∧ W.cell? ⟨w.heap.size + 1, 4, none⟩ = some (.int .i64 y.cl) ∧ W.cell? ⟨w.heap.size + 1, 5, none⟩ = some (.int .i64 y.cs) ∧ W.cell? ⟨b, pre.length + 1, none⟩ = some .nilIface) (first | go_keep) (first | fail)
      go_wp2
      have HD := Aside0.mk (HT2.out.fin (.int .i64 3) (.string (s.extract y.st.toNat y.p.toNat)) (.int .i64 y.st) (.int .i64 y.p) (.int .i64 y.cl) (.int .i64 y.cs))
      generalize ((((((W2.setCell ⟨w.heap.size, 0, none⟩ (.int .i64 3)).setCell ⟨w.heap.size, 1, none⟩ (.string (s.extract y.st.toNat y.p.toNat))).setCell ⟨w.heap.size, 2, none⟩ (.int .i64 y.st)).setCell ⟨w.heap.size, 3, none⟩ (.int .i64 y.p)).setCell ⟨w.heap.size, 4, none⟩ (.int .i64 y.cl)).setCell ⟨w.heap.size, 5, none⟩ (.int .i64 y.cs)) = W6 at HD ⊢
      obtain ⟨hc8, _⟩ := cells_in HD.out.2
      have r0 := hc8 0
      have r1 := hc8 1
      have r2 := hc8 2
      have r3 := hc8 3
      have r4 := hc8 4
      have r5 := hc8 5
      simp only [List.getElem?_toArray, List.getElem?_cons_zero, List.getElem?_cons_succ] at r0 r1 r2 r3 r4 r5
      exact bodyPost_ret (v := .tuple #[.agg #[.int .i64 3, .string (s.extract y.st.toNat y.p.toNat), .int .i64 y.st, .int .i64 y.p, .int .i64 y.cl, .int .i64 y.cs], .nilIface]) (by simp [results, Tryd.results18, go_sem, r0, r1, r2, r3, r4, r5]) rfl (by rw [HE.out]; exact ⟨rfl, (HD.out.1.below (below_drew (Below.refl _ _)))⟩)
    have f4 : (r == 44) = false := beq_eq_false_iff_ne.2 h4
    have HBK : Aside0 (backS y = { x2 with wd := y.wd }) := ⟨by rw [hy]; exact back_next hg⟩
    have HGB : Aside0 (LGd s (backS y)) := ⟨by rw [hy]; exact hg.back⟩
    by_cases h5 : r = 61 ∨ r = 33
    · have HE : Aside0 (scanF s (s.size + 1) x = (Sc.of (opF s (backS y)).1, (opF s (backS y)).2)) := ⟨by rw [hw]; unfold scan1; simp only [← hr, if_neg h1, if_neg h2, if_neg h3, if_neg h4, if_pos h5, hy]⟩
      have h5' : (r == 61) = true ∨ ((r == 61) = false ∧ (r == 33) = true) := by
        by_cases h : r = 61
        · exact Or.inl (by rw [h]; rfl)
        · exact Or.inr ⟨beq_eq_false_iff_ne.2 h, by rw [h5.resolve_left h]; rfl⟩
      clear hy hr hg hw hm h1 h2 h3 h4 h5 hrr
      have HT := Aside0.mk HR.out.out
      clear HR
      rcases h5' with g1 | ⟨g1, g2⟩
      all_goals
        go_wp2_with fail
        refine (rewind_calls _ b T pre post s .nilIface y HT.out.lx.lex hg2.out.ok).mono ?_
        rintro e W1 ⟨rfl, hO⟩
        have HT1 := Aside0.mk (HT.out.out hO)
        clear hO
        go_wp2_with fail
        refine (scanOperator_calls _ b T pre post s .nilIface (backS y) HT1.out.lx HGB.out).mono ?_
        rintro e W2 ⟨hE, hO⟩
        have HT2 := Aside0.mk (HT1.out.out hO)
        clear hO
        obtain ⟨o, ho⟩ : ∃ o, (opF s (backS y)).1 = o := ⟨_, rfl⟩
        obtain ⟨yq, hyq⟩ : ∃ o, (opF s (backS y)).2 = o := ⟨_, rfl⟩
        rw [ho, hyq] at hE HT2 HE
        clear ho hyq HT1
        cases o with
        | none =>
          obtain ⟨ev, rfl, hev⟩ := hE
          obtain ⟨ti, pv, rfl, hti⟩ := hev
          unfold tok0
          unfold resS at HT2
          have c1 := HT2.out.lx.lex.c1
          obtain ⟨a1, a2, a3, a4⟩ := HT2.out.facts
          have t0 := a1 0
          have t1 := a1 1
          have t2 := a1 2
          have t3 := a1 3
          have t4 := a1 4
          have t5 := a1 5
          have z0 := a3 0
          have z1 := a3 1
          have z2 := a3 2
          have z3 := a3 3
          have z4 := a3 4
          have z5 := a3 5
          simp only [List.getElem?_toArray, List.getElem?_cons_zero, List.getElem?_cons_succ] at t0 t1 t2 t3 t4 t5 z0 z1 z2 z3 z4 z5
          clear a1 a3
          have n1 : ¬ b = w.heap.size := by have := HT2.out.hb; omega
          have n2 : ¬ w.heap.size = b := by omega
          have n3 : ¬ b = w.heap.size + 1 := by have := HT2.out.hb; omega
          have n4 : ¬ w.heap.size + 1 = b := by omega
          have f1 := HT2.out.lx.lex.free (pre.length + 1)
          go_wp2_with fail
          have HT3 := Aside0.mk ((HT2.out.put rfl (.int .i64 0) (.string ⟨#[]⟩) (.int .i64 0) (.int .i64 0) (.int .i64 0) (.int .i64 0)).setErr (.iface ti pv))
          generalize (((((((W2.setCell ⟨w.heap.size + 1, 0, none⟩ (.int .i64 0)).setCell ⟨w.heap.size + 1, 1, none⟩ (.string ⟨#[]⟩)).setCell ⟨w.heap.size + 1, 2, none⟩ (.int .i64 0)).setCell ⟨w.heap.size + 1, 3, none⟩ (.int .i64 0)).setCell ⟨w.heap.size + 1, 4, none⟩ (.int .i64 0)).setCell ⟨w.heap.size + 1, 5, none⟩ (.int .i64 0)).setCell ⟨b, pre.length + 1, none⟩ (.iface ti pv)) = W3 at HT3 ⊢
          clear c1 t0 t1 t2 t3 t4 t5 z0 z1 z2 z3 z4 z5 a2 a4 n1 n2 n3 n4 f1
          have c1 := HT3.out.lx.lex.c1
          obtain ⟨a1, a2, a3, a4⟩ := HT3.out.facts
          have t0 := a1 0
          have t1 := a1 1
          have t2 := a1 2
          have t3 := a1 3
          have t4 := a1 4
          have t5 := a1 5
          have z0 := a3 0
          have z1 := a3 1
          have z2 := a3 2
          have z3 := a3 3
          have z4 := a3 4
          have z5 := a3 5
          simp only [List.getElem?_toArray, List.getElem?_cons_zero, List.getElem?_cons_succ] at t0 t1 t2 t3 t4 t5 z0 z1 z2 z3 z4 z5
          clear a1 a3
          have n1 : ¬ b = w.heap.size := by have := HT3.out.hb; omega
          have n2 : ¬ w.heap.size = b := by omega
          have n3 : ¬ b = w.heap.size + 1 := by have := HT3.out.hb; omega
          have n4 : ¬ w.heap.size + 1 = b := by omega
          go_wp2_with fail
          go_region_held3 (fun W => W.cell? ⟨w.heap.size + 1, 0, none⟩ = some (.int .i64 0) ∧ W.cell? ⟨w.heap.size + 1, 1, none⟩ = some (.string ⟨#[]⟩) ∧ W.cell? ⟨w.heap.size + 1, 2, none⟩ = some (.int .i64 0) ∧ W.cell? ⟨w.heap.size + 1, 3, none⟩ = some (.int .i64 0) ∧ W.cell? ⟨w.heap.size + 1, 4, none⟩ = some (.int .i64 0) ∧ W.cell? ⟨w.heap.size + 1, 5, none⟩ = some (.int .i64 0) ∧ W.cell? ⟨b, pre.length + 1, none⟩ = some (.iface ti pv)) (first | go_keep) (first | fail)
          go_wp2
          have HD := Aside0.mk (HT3.out.fin (.int .i64 0) (.string ⟨#[]⟩) (.int .i64 0) (.int .i64 0) (.int .i64 0) (.int .i64 0))
          generalize ((((((W3.setCell ⟨w.heap.size, 0, none⟩ (.int .i64 0)).setCell ⟨w.heap.size, 1, none⟩ (.string ⟨#[]⟩)).setCell ⟨w.heap.size, 2, none⟩ (.int .i64 0)).setCell ⟨w.heap.size, 3, none⟩ (.int .i64 0)).setCell ⟨w.heap.size, 4, none⟩ (.int .i64 0)).setCell ⟨w.heap.size, 5, none⟩ (.int .i64 0)) = W6 at HD ⊢
          obtain ⟨hc8, _⟩ := cells_in HD.out.2
          have r0 := hc8 0
          have r1 := hc8 1
          have r2 := hc8 2
          have r3 := hc8 3
          have r4 := hc8 4
          have r5 := hc8 5
          simp only [List.getElem?_toArray, List.getElem?_cons_zero, List.getElem?_cons_succ] at r0 r1 r2 r3 r4 r5
          exact bodyPost_ret (v := .tuple #[.agg #[.int .i64 0, .string ⟨#[]⟩, .int .i64 0, .int .i64 0, .int .i64 0, .int .i64 0], (.iface ti pv)]) (by simp [results, Tryd.results18, go_sem, r0, r1, r2, r3, r4, r5]) rfl (by rw [HE.out]; exact ⟨_, ⟨_, _, rfl, hti⟩, rfl, (HD.out.1.below (below_drew (Below.refl _ _)))⟩)
        | some kd =>
          obtain rfl := hE
          unfold tokV
          unfold resS at HT2
          have c1 := HT2.out.lx.lex.c1
          obtain ⟨a1, a2, a3, a4⟩ := HT2.out.facts
          have t0 := a1 0
          have t1 := a1 1
          have t2 := a1 2
          have t3 := a1 3
          have t4 := a1 4
          have t5 := a1 5
          have z0 := a3 0
          have z1 := a3 1
          have z2 := a3 2
          have z3 := a3 3
          have z4 := a3 4
          have z5 := a3 5
          simp only [List.getElem?_toArray, List.getElem?_cons_zero, List.getElem?_cons_succ] at t0 t1 t2 t3 t4 t5 z0 z1 z2 z3 z4 z5
          clear a1 a3
          have n1 : ¬ b = w.heap.size := by have := HT2.out.hb; omega
          have n2 : ¬ w.heap.size = b := by omega
          have n3 : ¬ b = w.heap.size + 1 := by have := HT2.out.hb; omega
          have n4 : ¬ w.heap.size + 1 = b := by omega
          have f1 := HT2.out.lx.lex.free (pre.length + 1)
          go_wp2_with fail
          have HT3 := Aside0.mk ((HT2.out.put rfl (.int .i64 kd) (.string (s.extract yq.st.toNat yq.p.toNat)) (.int .i64 yq.st) (.int .i64 yq.p) (.int .i64 yq.cl) (.int .i64 yq.cs)).setErr .nilIface)
          generalize (((((((W2.setCell ⟨w.heap.size + 1, 0, none⟩ (.int .i64 kd)).setCell ⟨w.heap.size + 1, 1, none⟩ (.string (s.extract yq.st.toNat yq.p.toNat))).setCell ⟨w.heap.size + 1, 2, none⟩ (.int .i64 yq.st)).setCell ⟨w.heap.size + 1, 3, none⟩ (.int .i64 yq.p)).setCell ⟨w.heap.size + 1, 4, none⟩ (.int .i64 yq.cl)).setCell ⟨w.heap.size + 1, 5, none⟩ (.int .i64 yq.cs)).setCell ⟨b, pre.length + 1, none⟩ .nilIface) = W3 at HT3 ⊢
          clear c1 t0 t1 t2 t3 t4 t5 z0 z1 z2 z3 z4 z5 a2 a4 n1 n2 n3 n4 f1
          have c1 := HT3.out.lx.lex.c1
          obtain ⟨a1, a2, a3, a4⟩ := HT3.out.facts
          have t0 := a1 0
          have t1 := a1 1
          have t2 := a1 2
          have t3 := a1 3
          have t4 := a1 4
          have t5 := a1 5
          have z0 := a3 0
          have z1 := a3 1
          have z2 := a3 2
          have z3 := a3 3
          have z4 := a3 4
          have z5 := a3 5
          simp only [List.getElem?_toArray, List.getElem?_cons_zero, List.getElem?_cons_succ] at t0 t1 t2 t3 t4 t5 z0 z1 z2 z3 z4 z5
          clear a1 a3
          have n1 : ¬ b = w.heap.size := by have := HT3.out.hb; omega
          have n2 : ¬ w.heap.size = b := by omega
          have n3 : ¬ b = w.heap.size + 1 := by have := HT3.out.hb; omega
          have n4 : ¬ w.heap.size + 1 = b := by omega
          go_wp2_with fail
          go_region_held3 (fun W => W.cell? ⟨w.heap.size + 1, 0, none⟩ = some (.int .i64 kd) ∧ W.cell? ⟨w.heap.size + 1, 1, none⟩ = some (.string (s.extract yq.st.toNat yq.p.toNat)) ∧ W.cell? ⟨w.heap.size + 1, 2, none⟩ = some (.int .i64 yq.st) ∧ W.cell? ⟨w.heap.size + 1, 3, none⟩ = some (.int .i64 yq.p) ∧ W.cell? ⟨w.heap.size + 1, 4, none⟩ = some (.int .i64 yq.cl) ∧ W.cell? ⟨w.heap.size + 1, 5, none⟩ = some (.int .i64 yq.cs) ∧ W.cell? ⟨b, pre.length + 1, none⟩ = some .nilIface) (first | go_keep) (first | fail)
          go_wp2
          have HD := Aside0.mk (HT3.out.fin (.int .i64 kd) (.string (s.extract yq.st.toNat yq.p.toNat)) (.int .i64 yq.st) (.int .i64 yq.p) (.int .i64 yq.cl) (.int .i64 yq.cs))
          generalize ((((((W3.setCell ⟨w.heap.size, 0, none⟩ (.int .i64 kd)).setCell ⟨w.heap.size, 1, none⟩ (.string (s.extract yq.st.toNat yq.p.toNat))).setCell ⟨w.heap.size, 2, none⟩ (.int .i64 yq.st)).setCell ⟨w.heap.size, 3, none⟩ (.int .i64 yq.p)).setCell ⟨w.heap.size, 4, none⟩ (.int .i64 yq.cl)).setCell ⟨w.heap.size, 5, none⟩ (.int .i64 yq.cs)) = W6 at HD ⊢
          obtain ⟨hc8, _⟩ := cells_in HD.out.2
          have r0 := hc8 0
          have r1 := hc8 1
          have r2 := hc8 2
          have r3 := hc8 3
          have r4 := hc8 4
          have r5 := hc8 5
          simp only [List.getElem?_toArray, List.getElem?_cons_zero, List.getElem?_cons_succ] at r0 r1 r2 r3 r4 r5
          exact bodyPost_ret (v := .tuple #[.agg #[.int .i64 kd, .string (s.extract yq.st.toNat yq.p.toNat), .int .i64 yq.st, .int .i64 yq.p, .int .i64 yq.cl, .int .i64 yq.cs], .nilIface]) (by simp [results, Tryd.results18, go_sem, r0, r1, r2, r3, r4, r5]) rfl (by rw [HE.out]; exact ⟨rfl, (HD.out.1.below (below_drew (Below.refl _ _)))⟩)
    have f5 : (r == 61) = false := beq_eq_false_iff_ne.2 (fun h => h5 (Or.inl h))
    have f6 : (r == 33) = false := beq_eq_false_iff_ne.2 (fun h => h5 (Or.inr h))
    by_cases h6 : r = 34
    · have HE : Aside0 (scanF s (s.size + 1) x = (Sc.of (quoF s (backS y)).1, (quoF s (backS y)).2)) := ⟨by rw [hw]; unfold scan1; simp only [← hr, if_neg h1, if_neg h2, if_neg h3, if_neg h4, if_neg h5, if_pos h6, hy]⟩
      have hb1 : acB s (backS y) ⟨#[34]⟩ = true := by
        unfold acB
        rw [HBK.out]
        show hasR _ (nextR s x2.p) = true
        rw [← hr, h6]
        exact has34
      have hqf : quoF s (backS y) = (if acB s (quotS s (s.size + 1) false (acS s (backS y) ⟨#[34]⟩)) ⟨#[34]⟩ then some 8 else none, acS s (quotS s (s.size + 1) false (acS s (backS y) ⟨#[34]⟩)) ⟨#[34]⟩) := by unfold quoF; rw [if_pos hb1]
      obtain ⟨o, ho⟩ : ∃ o, (if acB s (quotS s (s.size + 1) false (acS s (backS y) ⟨#[34]⟩)) ⟨#[34]⟩ then some 8 else none : Option Int) = o := ⟨_, rfl⟩
      obtain ⟨yq, hyq⟩ : ∃ o, acS s (quotS s (s.size + 1) false (acS s (backS y) ⟨#[34]⟩)) ⟨#[34]⟩ = o := ⟨_, rfl⟩
      rw [ho, hyq] at hqf
      rw [hqf] at HE
      have HB1 := Aside0.mk hb1
      have HO9 := Aside0.mk ho
      have HY9 := Aside0.mk hyq
      subst h6
      clear hy hr hg hw hm h1 h2 h3 h4 h5 hrr hb1 ho hyq hqf
      have HT := Aside0.mk HR.out.out
      clear HR
      go_wp2_with fail
      refine (rewind_calls _ b T pre post s .nilIface y HT.out.lx.lex hg2.out.ok).mono ?_
      rintro e W1 ⟨rfl, hO⟩
      have HT1 := Aside0.mk (HT.out.out hO)
      clear hO
      go_wp2_with fail
      refine (scanQuoted1_calls _ b T pre post s .nilIface (backS y) _ _ _ _ HB1.out rfl rfl HY9.out HO9.out HT1.out.lx HGB.out).mono ?_
      rintro e W2 ⟨hE, hO⟩
      have HT2 := Aside0.mk (HT1.out.out hO)
      clear hO HT1
      cases o with
      | none =>
        obtain ⟨ev, rfl, hev⟩ := hE
        obtain ⟨ti, pv, rfl, hti⟩ := hev
        unfold tok0
        unfold resS at HT2
        have c1 := HT2.out.lx.lex.c1
        obtain ⟨a1, a2, a3, a4⟩ := HT2.out.facts
        have t0 := a1 0
        have t1 := a1 1
        have t2 := a1 2
        have t3 := a1 3
        have t4 := a1 4
        have t5 := a1 5
        have z0 := a3 0
        have z1 := a3 1
        have z2 := a3 2
        have z3 := a3 3
        have z4 := a3 4
        have z5 := a3 5
        simp only [List.getElem?_toArray, List.getElem?_cons_zero, List.getElem?_cons_succ] at t0 t1 t2 t3 t4 t5 z0 z1 z2 z3 z4 z5
        clear a1 a3
        have n1 : ¬ b = w.heap.size := by have := HT2.out.hb; omega
        have n2 : ¬ w.heap.size = b := by omega
        have n3 : ¬ b = w.heap.size + 1 := by have := HT2.out.hb; omega
        have n4 : ¬ w.heap.size + 1 = b := by omega
        have f1 := HT2.out.lx.lex.free (pre.length + 1)
        go_wp2_with fail
        have HT3 := Aside0.mk ((HT2.out.put rfl (.int .i64 0) (.string ⟨#[]⟩) (.int .i64 0) (.int .i64 0) (.int .i64 0) (.int .i64 0)).setErr (.iface ti pv))
        generalize (((((((W2.setCell ⟨w.heap.size + 1, 0, none⟩ (.int .i64 0)).setCell ⟨w.heap.size + 1, 1, none⟩ (.string ⟨#[]⟩)).setCell ⟨w.heap.size + 1, 2, none⟩ (.int .i64 0)).setCell ⟨w.heap.size + 1, 3, none⟩ (.int .i64 0)).setCell ⟨w.heap.size + 1, 4, none⟩ (.int .i64 0)).setCell ⟨w.heap.size + 1, 5, none⟩ (.int .i64 0)).setCell ⟨b, pre.length + 1, none⟩ (.iface ti pv)) = W3 at HT3 ⊢
        clear c1 t0 t1 t2 t3 t4 t5 z0 z1 z2 z3 z4 z5 a2 a4 n1 n2 n3 n4 f1
        have c1 := HT3.out.lx.lex.c1
        obtain ⟨a1, a2, a3, a4⟩ := HT3.out.facts
        have t0 := a1 0
        have t1 := a1 1
        have t2 := a1 2
        have t3 := a1 3
        have t4 := a1 4
        have t5 := a1 5
        have z0 := a3 0
        have z1 := a3 1
        have z2 := a3 2
        have z3 := a3 3
        have z4 := a3 4
        have z5 := a3 5
        simp only [List.getElem?_toArray, List.getElem?_cons_zero, List.getElem?_cons_succ] at t0 t1 t2 t3 t4 t5 z0 z1 z2 z3 z4 z5
        clear a1 a3
        have n1 : ¬ b = w.heap.size := by have := HT3.out.hb; omega
        have n2 : ¬ w.heap.size = b := by omega
        have n3 : ¬ b = w.heap.size + 1 := by have := HT3.out.hb; omega
        have n4 : ¬ w.heap.size + 1 = b := by omega
        go_wp2_with fail
        go_region_held3 (fun W => W.cell? ⟨w.heap.size + 1, 0, none⟩ = some (.int .i64 0) ∧ W.cell? ⟨w.heap.size + 1, 1, none⟩ = some (.string ⟨#[]⟩) ∧ W.cell? ⟨w.heap.size + 1, 2, none⟩ = some (.int .i64 0) ∧ W.cell? ⟨w.heap.size + 1, 3, none⟩ = some (.int .i64 0) ∧ W.cell? ⟨w.heap.size + 1, 4, none⟩ = some (.int .i64 0) ∧ W.cell? ⟨w.heap.size + 1, 5, none⟩ = some (.int .i64 0) ∧ W.cell? ⟨b, pre.length + 1, none⟩ = some (.iface ti pv)) (first | go_keep) (first | fail)
        go_wp2
        have HD := Aside0.mk (HT3.out.fin (.int .i64 0) (.string ⟨#[]⟩) (.int .i64 0) (.int .i64 0) (.int .i64 0) (.int .i64 0))
        generalize ((((((W3.setCell ⟨w.heap.size, 0, none⟩ (.int .i64 0)).setCell ⟨w.heap.size, 1, none⟩ (.string ⟨#[]⟩)).setCell ⟨w.heap.size, 2, none⟩ (.int .i64 0)).setCell ⟨w.heap.size, 3, none⟩ (.int .i64 0)).setCell ⟨w.heap.size, 4, none⟩ (.int .i64 0)).setCell ⟨w.heap.size, 5, none⟩ (.int .i64 0)) = W6 at HD ⊢
        obtain ⟨hc8, _⟩ := cells_in HD.out.2
        have r0 := hc8 0
        have r1 := hc8 1
        have r2 := hc8 2
        have r3 := hc8 3
        have r4 := hc8 4
        have r5 := hc8 5
        simp only [List.getElem?_toArray, List.getElem?_cons_zero, List.getElem?_cons_succ] at r0 r1 r2 r3 r4 r5
        exact bodyPost_ret (v := .tuple #[.agg #[.int .i64 0, .string ⟨#[]⟩, .int .i64 0, .int .i64 0, .int .i64 0, .int .i64 0], (.iface ti pv)]) (by simp [results, Tryd.results18, go_sem, r0, r1, r2, r3, r4, r5]) rfl (by rw [HE.out]; exact ⟨_, ⟨_, _, rfl, hti⟩, rfl, (HD.out.1.below (below_drew (Below.refl _ _)))⟩)
      | some kd =>
        obtain rfl := hE
        unfold tokV
        unfold resS at HT2
        have c1 := HT2.out.lx.lex.c1
        obtain ⟨a1, a2, a3, a4⟩ := HT2.out.facts
        have t0 := a1 0
        have t1 := a1 1
        have t2 := a1 2
        have t3 := a1 3
        have t4 := a1 4
        have t5 := a1 5
        have z0 := a3 0
        have z1 := a3 1
        have z2 := a3 2
        have z3 := a3 3
        have z4 := a3 4
        have z5 := a3 5
        simp only [List.getElem?_toArray, List.getElem?_cons_zero, List.getElem?_cons_succ] at t0 t1 t2 t3 t4 t5 z0 z1 z2 z3 z4 z5
        clear a1 a3
        have n1 : ¬ b = w.heap.size := by have := HT2.out.hb; omega
        have n2 : ¬ w.heap.size = b := by omega
        have n3 : ¬ b = w.heap.size + 1 := by have := HT2.out.hb; omega
        have n4 : ¬ w.heap.size + 1 = b := by omega
        have f1 := HT2.out.lx.lex.free (pre.length + 1)
        go_wp2_with fail
        have HT3 := Aside0.mk ((HT2.out.put rfl (.int .i64 kd) (.string (s.extract yq.st.toNat yq.p.toNat)) (.int .i64 yq.st) (.int .i64 yq.p) (.int .i64 yq.cl) (.int .i64 yq.cs)).setErr .nilIface)
        generalize (((((((W2.setCell ⟨w.heap.size + 1, 0, none⟩ (.int .i64 kd)).setCell ⟨w.heap.size + 1, 1, none⟩ (.string (s.extract yq.st.toNat yq.p.toNat))).setCell ⟨w.heap.size + 1, 2, none⟩ (.int .i64 yq.st)).setCell ⟨w.heap.size + 1, 3, none⟩ (.int .i64 yq.p)).setCell ⟨w.heap.size + 1, 4, none⟩ (.int .i64 yq.cl)).setCell ⟨w.heap.size + 1, 5, none⟩ (.int .i64 yq.cs)).setCell ⟨b, pre.length + 1, none⟩ .nilIface) = W3 at HT3 ⊢
        clear c1 t0 t1 t2 t3 t4 t5 z0 z1 z2 z3 z4 z5 a2 a4 n1 n2 n3 n4 f1
        have c1 := HT3.out.lx.lex.c1
        obtain ⟨a1, a2, a3, a4⟩ := HT3.out.facts
        have t0 := a1 0
        have t1 := a1 1
        have t2 := a1 2
        have t3 := a1 3
        have t4 := a1 4
        have t5 := a1 5
        have z0 := a3 0
        have z1 := a3 1
        have z2 := a3 2
        have z3 := a3 3
        have z4 := a3 4
        have z5 := a3 5
        simp only [List.getElem?_toArray, List.getElem?_cons_zero, List.getElem?_cons_succ] at t0 t1 t2 t3 t4 t5 z0 z1 z2 z3 z4 z5
        clear a1 a3
        have n1 : ¬ b = w.heap.size := by have := HT3.out.hb; omega
        have n2 : ¬ w.heap.size = b := by omega
        have n3 : ¬ b = w.heap.size + 1 := by have := HT3.out.hb; omega
        have n4 : ¬ w.heap.size + 1 = b := by omega
        go_wp2_with fail
        go_region_held3 (fun W => W.cell? ⟨w.heap.size + 1, 0, none⟩ = some (.int .i64 kd) ∧ W.cell? ⟨w.heap.size + 1, 1, none⟩ = some (.string (s.extract yq.st.toNat yq.p.toNat)) ∧ W.cell? ⟨w.heap.size + 1, 2, none⟩ = some (.int .i64 yq.st) ∧ W.cell? ⟨w.heap.size + 1, 3, none⟩ = some (.int .i64 yq.p) ∧ W.cell? ⟨w.heap.size + 1, 4, none⟩ = some (.int .i64 yq.cl) ∧ W.cell? ⟨w.heap.size + 1, 5, none⟩ = some (.int .i64 yq.cs) ∧ W.cell? ⟨b, pre.length + 1, none⟩ = some .nilIface) (first | go_keep) (first | fail)
        go_wp2
        have HD := Aside0.mk (HT3.out.fin (.int .i64 kd) (.string (s.extract yq.st.toNat yq.p.toNat)) (.int .i64 yq.st) (.int .i64 yq.p) (.int .i64 yq.cl) (.int .i64 yq.cs))
        generalize ((((((W3.setCell ⟨w.heap.size, 0, none⟩ (.int .i64 kd)).setCell ⟨w.heap.size, 1, none⟩ (.string (s.extract yq.st.toNat yq.p.toNat))).setCell ⟨w.heap.size, 2, none⟩ (.int .i64 yq.st)).setCell ⟨w.heap.size, 3, none⟩ (.int .i64 yq.p)).setCell ⟨w.heap.size, 4, none⟩ (.int .i64 yq.cl)).setCell ⟨w.heap.size, 5, none⟩ (.int .i64 yq.cs)) = W6 at HD ⊢
        obtain ⟨hc8, _⟩ := cells_in HD.out.2
        have r0 := hc8 0
        have r1 := hc8 1
        have r2 := hc8 2
        have r3 := hc8 3
        have r4 := hc8 4
        have r5 := hc8 5
        simp only [List.getElem?_toArray, List.getElem?_cons_zero, List.getElem?_cons_succ] at r0 r1 r2 r3 r4 r5
        exact bodyPost_ret (v := .tuple #[.agg #[.int .i64 kd, .string (s.extract yq.st.toNat yq.p.toNat), .int .i64 yq.st, .int .i64 yq.p, .int .i64 yq.cl, .int .i64 yq.cs], .nilIface]) (by simp [results, Tryd.results18, go_sem, r0, r1, r2, r3, r4, r5]) rfl (by rw [HE.out]; exact ⟨rfl, (HD.out.1.below (below_drew (Below.refl _ _)))⟩)
    have f7 : (r == 34) = false := beq_eq_false_iff_ne.2 h6
    cases hres : resR r
    · obtain ⟨yq, hyq⟩ : ∃ o, wordS s (s.size + 1) (backS y) = o := ⟨_, rfl⟩
      have HE : Aside0 (scanF s (s.size + 1) x = (.tok 9, yq)) := ⟨by rw [hw]; unfold scan1; simp only [← hr, if_neg h1, if_neg h2, if_neg h3, if_neg h4, if_neg h5, if_neg h6, hres, if_true, ← hy, hyq]⟩
      have HY9 := Aside0.mk hyq
      have HRES := Aside0.mk hres
      have h0 := hrr.1
      have h01 := hrr.2
      clear hy hr hg hw hm h1 h2 h3 h4 h5 h6 hrr hres hyq
      have HT := Aside0.mk HR.out.out
      clear HR
      go_wp2_with fail
      refine (isReserved_calls r _ h0 h01 HT.out.lx.tb.tbl).mono ?_
      rintro e W0 ⟨rfl, hb⟩
      rw [HRES.out]
      have HT0 := Aside0.mk (HT.out.below hb)
      clear hb
      go_wp2_with fail
      refine (rewind_calls _ b T pre post s .nilIface y HT0.out.lx.lex hg2.out.ok).mono ?_
      rintro e W1 ⟨rfl, hO⟩
      have HT1 := Aside0.mk (HT0.out.out hO)
      clear hO
      go_wp2_with fail
      refine (scanUnquoted_calls _ b T pre post s .nilIface (backS y) yq HY9.out HT1.out.lx HGB.out).mono ?_
      rintro e W2 ⟨hE, hO⟩
      have HT2 := Aside0.mk (HT1.out.out hO)
      clear hO HT1 HT0 HT
      obtain rfl := hE
      unfold tokV
      unfold resS at HT2
      have c1 := HT2.out.lx.lex.c1
      obtain ⟨a1, a2, a3, a4⟩ := HT2.out.facts
      have t0 := a1 0
      have t1 := a1 1
      have t2 := a1 2
      have t3 := a1 3
      have t4 := a1 4
      have t5 := a1 5
      have z0 := a3 0
      have z1 := a3 1
      have z2 := a3 2
      have z3 := a3 3
      have z4 := a3 4
      have z5 := a3 5
      simp only [List.getElem?_toArray, List.getElem?_cons_zero, List.getElem?_cons_succ] at t0 t1 t2 t3 t4 t5 z0 z1 z2 z3 z4 z5
      clear a1 a3
      have n1 : ¬ b = w.heap.size := by have := HT2.out.hb; omega
      have n2 : ¬ w.heap.size = b := by omega
      have n3 : ¬ b = w.heap.size + 1 := by have := HT2.out.hb; omega
      have n4 : ¬ w.heap.size + 1 = b := by omega
      have f1 := HT2.out.lx.lex.free (pre.length + 1)
      go_wp2_with fail
      have HT3 := Aside0.mk ((HT2.out.put rfl (.int .i64 9) (.string (s.extract yq.st.toNat yq.p.toNat)) (.int .i64 yq.st) (.int .i64 yq.p) (.int .i64 yq.cl) (.int .i64 yq.cs)).setErr .nilIface)
      generalize (((((((W2.setCell ⟨w.heap.size + 1, 0, none⟩ (.int .i64 9)).setCell ⟨w.heap.size + 1, 1, none⟩ (.string (s.extract yq.st.toNat yq.p.toNat))).setCell ⟨w.heap.size + 1, 2, none⟩ (.int .i64 yq.st)).setCell ⟨w.heap.size + 1, 3, none⟩ (.int .i64 yq.p)).setCell ⟨w.heap.size + 1, 4, none⟩ (.int .i64 yq.cl)).setCell ⟨w.heap.size + 1, 5, none⟩ (.int .i64 yq.cs)).setCell ⟨b, pre.length + 1, none⟩ .nilIface) = W3 at HT3 ⊢
      clear c1 t0 t1 t2 t3 t4 t5 z0 z1 z2 z3 z4 z5 a2 a4 n1 n2 n3 n4 f1
      have c1 := HT3.out.lx.lex.c1
      obtain ⟨a1, a2, a3, a4⟩ := HT3.out.facts
      have t0 := a1 0
      have t1 := a1 1
      have t2 := a1 2
      have t3 := a1 3
      have t4 := a1 4
      have t5 := a1 5
      have z0 := a3 0
      have z1 := a3 1
      have z2 := a3 2
      have z3 := a3 3
      have z4 := a3 4
      have z5 := a3 5
      simp only [List.getElem?_toArray, List.getElem?_cons_zero, List.getElem?_cons_succ] at t0 t1 t2 t3 t4 t5 z0 z1 z2 z3 z4 z5
      clear a1 a3
      have n1 : ¬ b = w.heap.size := by have := HT3.out.hb; omega
      have n2 : ¬ w.heap.size = b := by omega
      have n3 : ¬ b = w.heap.size + 1 := by have := HT3.out.hb; omega
      have n4 : ¬ w.heap.size + 1 = b := by omega
      go_wp2_with fail
      go_region_held3 (fun W => W.cell? ⟨w.heap.size + 1, 0, none⟩ = some (.int .i64 9) ∧ W.cell? ⟨w.heap.size + 1, 1, none⟩ = some (.string (s.extract yq.st.toNat yq.p.toNat)) ∧ W.cell? ⟨w.heap.size + 1, 2, none⟩ = some (.int .i64 yq.st) ∧ W.cell? ⟨w.heap.size + 1, 3, none⟩ = some (.int .i64 yq.p) ∧ W.cell? ⟨w.heap.size + 1, 4, none⟩ = some (.int .i64 yq.cl) ∧ W.cell? ⟨w.heap.size + 1, 5, none⟩ = some (.int .i64 yq.cs) ∧ W.cell? ⟨b, pre.length + 1, none⟩ = some .nilIface) (first | go_keep) (first | fail)
      go_wp2
      have HD := Aside0.mk (HT3.out.fin (.int .i64 9) (.string (s.extract yq.st.toNat yq.p.toNat)) (.int .i64 yq.st) (.int .i64 yq.p) (.int .i64 yq.cl) (.int .i64 yq.cs))
      generalize ((((((W3.setCell ⟨w.heap.size, 0, none⟩ (.int .i64 9)).setCell ⟨w.heap.size, 1, none⟩ (.string (s.extract yq.st.toNat yq.p.toNat))).setCell ⟨w.heap.size, 2, none⟩ (.int .i64 yq.st)).setCell ⟨w.heap.size, 3, none⟩ (.int .i64 yq.p)).setCell ⟨w.heap.size, 4, none⟩ (.int .i64 yq.cl)).setCell ⟨w.heap.size, 5, none⟩ (.int .i64 yq.cs)) = W6 at HD ⊢
      obtain ⟨hc8, _⟩ := cells_in HD.out.2
      have r0 := hc8 0
      have r1 := hc8 1
      have r2 := hc8 2
      have r3 := hc8 3
      have r4 := hc8 4
      have r5 := hc8 5
      simp only [List.getElem?_toArray, List.getElem?_cons_zero, List.getElem?_cons_succ] at r0 r1 r2 r3 r4 r5
      exact bodyPost_ret (v := .tuple #[.agg #[.int .i64 9, .string (s.extract yq.st.toNat yq.p.toNat), .int .i64 yq.st, .int .i64 yq.p, .int .i64 yq.cl, .int .i64 yq.cs], .nilIface]) (by simp [results, Tryd.results18, go_sem, r0, r1, r2, r3, r4, r5]) rfl (by rw [HE.out]; exact ⟨rfl, (HD.out.1.below (below_drew (Below.refl _ _)))⟩)
    · have HRES := Aside0.mk hres
      have h0 := hrr.1
      have h01 := hrr.2
      cases hsp : Lib.isSpaceZ r
      · have HE : Aside0 (scanF s (s.size + 1) x = (.bad, y)) := ⟨by rw [hw]; unfold scan1; simp only [← hr, if_neg h1, if_neg h2, if_neg h3, if_neg h4, if_neg h5, if_neg h6, hres, hsp, Bool.false_eq_true, Bool.true_eq_false, if_false, ← hy]⟩
        have HSP := Aside0.mk hsp
        clear hy hr hg hw hm h1 h2 h3 h4 h5 h6 hrr hres hsp
        have HT := Aside0.mk HR.out.out
        clear HR
        go_wp2_with fail
        refine (isReserved_calls r _ h0 h01 HT.out.lx.tb.tbl).mono ?_
        rintro e W0 ⟨rfl, hb⟩
        rw [HRES.out]
        replace HT := Aside0.mk (HT.out.below hb)
        clear hb
        go_wp2_with fail
        refine (Tryd.unicode_IsSpace_any r _ h0 h01 HT.out.lx.tb.tbl.2).mono ?_
        rintro e wr ⟨rfl, hb⟩
        rw [HSP.out]
        replace HT := Aside0.mk (HT.out.below hb)
        clear hb
        have c0 := HT.out.lx.lex.c0
        have c1 := HT.out.lx.lex.c1
        have f1 := HT.out.lx.lex.free (pre.length + 1)
        have HT0 : Aside0 (ScT w wr.drew b T pre post s .nilIface y #[.int .i64 0, .string ⟨#[]⟩, .int .i64 0, .int .i64 0, .int .i64 0, .int .i64 0]) := ⟨HT.out.below (below_drew (Below.refl _ _))⟩
        go_wp2_with fail
        go_region_held3 (fun W => W.cell? ⟨b, pre.length, none⟩ = some (.string s) ∧ W.frozen? ⟨b, pre.length + 1, none⟩ = false ∧ Aside0 (∃ ev, ScT w W b T pre post s ev y #[.int .i64 0, .string ⟨#[]⟩, .int .i64 0, .int .i64 0, .int .i64 0, .int .i64 0])) (first | (with_reducible exact ⟨HT0.out.lx.lex.c0, HT0.out.lx.lex.free _, ⟨_, HT0.out⟩⟩) | (with_reducible exact ⟨HT1.out.lx.lex.c0, HT1.out.lx.lex.free _, ⟨_, HT1.out⟩⟩) | (with_reducible exact ⟨(HT1.out.setErr _).lx.lex.c0, (HT1.out.setErr _).lx.lex.free _, ⟨_, HT1.out.setErr _⟩⟩)) (first | (go_at_call 34; (with_reducible refine (posT_calls w wr.drew b T pre post s .nilIface y #[.int .i64 0, .string ⟨#[]⟩, .int .i64 0, .int .i64 0, .int .i64 0, .int .i64 0] HT0.out).mono ?_); rintro e w4 ⟨rfl, HT1⟩; unfold posV; have m1 := HT1.out.lx.lex.c1))
        have HT3 := Aside0.mk (HT1.out.setErr (.iface 66 (.agg #[.int .i64 y.st, .int .i64 y.p, .int .i64 y.cl, .int .i64 y.cs, .string s])))
        generalize (w4.setCell ⟨b, pre.length + 1, none⟩ (.iface 66 (.agg #[.int .i64 y.st, .int .i64 y.p, .int .i64 y.cl, .int .i64 y.cs, .string s]))) = W3 at HT3 ⊢
        clear c0 c1 f1
        have c1 := HT3.out.lx.lex.c1
        obtain ⟨a1, a2, a3, a4⟩ := HT3.out.facts
        have t0 := a1 0
        have t1 := a1 1
        have t2 := a1 2
        have t3 := a1 3
        have t4 := a1 4
        have t5 := a1 5
        have z0 := a3 0
        have z1 := a3 1
        have z2 := a3 2
        have z3 := a3 3
        have z4 := a3 4
        have z5 := a3 5
        simp only [List.getElem?_toArray, List.getElem?_cons_zero, List.getElem?_cons_succ] at t0 t1 t2 t3 t4 t5 z0 z1 z2 z3 z4 z5
        clear a1 a3
        have n1 : ¬ b = w.heap.size := by have := HT3.out.hb; omega
        have n2 : ¬ w.heap.size = b := by omega
        have n3 : ¬ b = w.heap.size + 1 := by have := HT3.out.hb; omega
        have n4 : ¬ w.heap.size + 1 = b := by omega
        go_wp2_with fail
        go_region_held3 (fun W => W.cell? ⟨w.heap.size + 1, 0, none⟩ = some (.int .i64 0) ∧ W.cell? ⟨w.heap.size + 1, 1, none⟩ = some (.string ⟨#[]⟩) ∧ W.cell? ⟨w.heap.size + 1, 2, none⟩ = some (.int .i64 0) ∧ W.cell? ⟨w.heap.size + 1, 3, none⟩ = some (.int .i64 0) ∧ W.cell? ⟨w.heap.size + 1, 4, none⟩ = some (.int .i64 0) ∧ W.cell? ⟨w.heap.size + 1, 5, none⟩ = some (.int .i64 0) ∧ W.cell? ⟨b, pre.length + 1, none⟩ = some (.iface 66 (.agg #[.int .i64 y.st, .int .i64 y.p, .int .i64 y.cl, .int .i64 y.cs, .string s]))) (first | go_keep) (first | fail)
        go_wp2
        have HD := Aside0.mk (HT3.out.fin (.int .i64 0) (.string ⟨#[]⟩) (.int .i64 0) (.int .i64 0) (.int .i64 0) (.int .i64 0))
        generalize ((((((W3.setCell ⟨w.heap.size, 0, none⟩ (.int .i64 0)).setCell ⟨w.heap.size, 1, none⟩ (.string ⟨#[]⟩)).setCell ⟨w.heap.size, 2, none⟩ (.int .i64 0)).setCell ⟨w.heap.size, 3, none⟩ (.int .i64 0)).setCell ⟨w.heap.size, 4, none⟩ (.int .i64 0)).setCell ⟨w.heap.size, 5, none⟩ (.int .i64 0)) = W6 at HD ⊢
        obtain ⟨hc8, _⟩ := cells_in HD.out.2
        have r0 := hc8 0
        have r1 := hc8 1
        have r2 := hc8 2
        have r3 := hc8 3
        have r4 := hc8 4
        have r5 := hc8 5
        simp only [List.getElem?_toArray, List.getElem?_cons_zero, List.getElem?_cons_succ] at r0 r1 r2 r3 r4 r5
        exact bodyPost_ret (v := .tuple #[.agg #[.int .i64 0, .string ⟨#[]⟩, .int .i64 0, .int .i64 0, .int .i64 0, .int .i64 0], (.iface 66 (.agg #[.int .i64 y.st, .int .i64 y.p, .int .i64 y.cl, .int .i64 y.cs, .string s]))]) (by simp [results, Tryd.results18, go_sem, r0, r1, r2, r3, r4, r5]) rfl (by rw [HE.out]; exact ⟨_, ⟨_, _, rfl, Or.inr (Or.inr rfl)⟩, rfl, (HD.out.1.below (below_drew (Below.refl _ _)))⟩)
      · have HWS : Aside0 (scanF s (s.size + 1) x = scanF s k (skipS y)) := ⟨by rw [hw]; unfold scan1; simp only [← hr, if_neg h1, if_neg h2, if_neg h3, if_neg h4, if_neg h5, if_neg h6, hres, hsp, Bool.true_eq_false, if_false, if_true, ← hy]⟩
        have hk2 : s.size - y.p.toNat + 1 ≤ k := by
          have hon := (nextS_on hg (by rw [← hr]; exact h1)).1
          rw [← hy] at hon
          have := hg2.out.p1
          have := hg.s0; have := hg.s1
          omega
        have HK2 := Aside0.mk hk2
        have HM := Aside0.mk (word_less hg hy hr h1)
        have HM0 := Aside0.mk (wordM_is HR.out.out.lx.lex r)
        have HSP := Aside0.mk hsp
        clear hy hr hg hw hm h1 h2 h3 h4 h5 h6 hrr hres hsp hk2
        have HT := Aside0.mk HR.out.out
        clear HR
        go_wp2_with fail
        refine (isReserved_calls r _ h0 h01 HT.out.lx.tb.tbl).mono ?_
        rintro e W0 ⟨rfl, hb⟩
        rw [HRES.out]
        replace HT := Aside0.mk (HT.out.below hb)
        clear hb
        go_wp2_with fail
        refine (Tryd.unicode_IsSpace_any r _ h0 h01 HT.out.lx.tb.tbl.2).mono ?_
        rintro e W1 ⟨rfl, hb⟩
        rw [HSP.out]
        replace HT := Aside0.mk (HT.out.below hb)
        clear hb
        go_wp2_with fail
        refine (skip_calls _ b T pre post s .nilIface y HT.out.lx.lex).mono ?_
        rintro e W2 ⟨rfl, hO⟩
        replace HT := Aside0.mk (HT.out.out hO)
        clear hO
        go_wp2_with fail
        refine (next_calls _ b T pre post s .nilIface (skipS y) HT.out.lx.lex hg2.out.skip.ok HT.out.lx.tb.tbl).mono ?_
        rintro e W3 ⟨rfl, hO⟩
        have HW3 : Aside0 (ScanAt w W3 b T pre post s x (nextS s (skipS y)) (nextR s (skipS y).p)) := ⟨⟨⟨skipS y, k - 1, rfl, rfl, hg2.out.skip, by rw [HWS.out]; congr 1; have := HK2.out; omega, by have := HK2.out; show s.size - y.p.toNat ≤ _; omega⟩, HT.out.out hO⟩⟩
        clear hO HT
        go_wp2_with fail
        go_roundw
        case rel => exact ⟨_, _, rfl, HW3⟩
        case measure =>
          rw [wordM_is HW3.out.out.lx.lex, HM0.out]
          have e : (nextS s (skipS y)).p = (nextS s y).p := by
            unfold nextS
            show (if (skipS y).p.toNat < s.size then _ else _ : LSt).p = _
            show (if y.p.toNat < s.size then _ else _ : LSt).p = _
            split <;> rfl
          rw [e]
          exact HM.out
end Go.Proofs.YtlpcbmgleecafaaDoor.Q
