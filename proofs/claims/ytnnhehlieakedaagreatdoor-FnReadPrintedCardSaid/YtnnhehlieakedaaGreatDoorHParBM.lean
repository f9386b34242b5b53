/- The parser's acceptPeek, accept, expectPeek and expect. Condition: the library's tables and the package's errors as they are laid, below the parser's block. The parser's states that read at most two tokens: parseEOF, parseCloseBrace, parseEndOfMatcher, parseComma. Condition: the library's tables and the package's errors as they are laid, below the parser's block. errors.Is at a target of errors.New's make: the same pointer, another one, an error of the lexer's. No condition but that. The parser's state behind a matcher. Condition: the library's tables and the package's errors as they are laid, below the parser's block. The parser's state at a comma. Condition: the library's tables and the package's errors as they are laid, below the parser's block. The parser's first state. Condition: the library's tables and the package's errors as they are laid, below the parser's block. -/
import Derived.Test.YtnnhehlieakedaaGreatDoorHLexM
import Derived.Test.YtnnhehlieakedaaGreatDoorHParKM
import Derived.LaidEql
import Derived.WalkKit
import Derived.Stop.Asserts
import Derived.RowKitTokens
set_option linter.unusedVariables false
set_option linter.unusedSimpArgs false
namespace Go.Proofs.YtnnhehlieakedaaGreatDoor.Q
open Go.RowKit Go.Lib Go.Proofs.YtnnhehlieakedaaGreatDoorW.PrintWords Go.Proofs.YtnnhehlieakedaaGreatDoorW.PrintLast Go.Proofs.YtnnhehlieakedaaGreatDoorW.PrintMore
attribute [local go_sem] max2_int min2_int max_two min_two max_three min_three max_four min_four
def IsE (w : World) (g : Nat) : Prop := ∃ t p, w.cell? ⟨g, 0, none⟩ = some (.iface t p)
/-- What the errors' variables hold: errEOF a pointer, the others some error. -/
structure ErrsAt (w : World) (a : Addr) : Prop where
  eof : w.cell? ⟨0, 0, none⟩ = some (.iface 116 (.pointer (some a)))
  blk : ∃ c t, w.heap[a.block]? = some (.cells c t (0, 0))
  e1 : IsE w 3
  e2 : IsE w 5
  e3 : IsE w 4
  e4 : IsE w 6
  e5 : IsE w 8
  e6 : IsE w 7
  e7 : IsE w 18
  e8 : IsE w 9
  e9 : IsE w 19
  es : IsE w 17
theorem IsE.below {w w' : World} {g : Nat} (h : IsE w g) (hb : Below w.heap.size w w') : IsE w' g := by
  obtain ⟨t, p, h⟩ := h
  exact ⟨t, p, (hb.cell (World.block_lt_of_cell? _ _ h)).trans h⟩
theorem ErrsAt.below {w w' : World} {a : Addr} (h : ErrsAt w a) (hb : Below w.heap.size w w') : ErrsAt w' a := by
  obtain ⟨c, t, hc⟩ := h.blk
  exact ⟨(hb.cell (World.block_lt_of_cell? _ _ h.eof)).trans h.eof, ⟨c, t, blk_below hc hb⟩, h.e1.below hb, h.e2.below hb, h.e3.below hb, h.e4.below hb, h.e5.below hb, h.e6.below hb, h.e7.below hb, h.e8.below hb, h.e9.below hb, h.es.below hb⟩
/-- The errors, in blocks that lie below the parser's. -/
def PE (b : Nat) (w : World) (a : Addr) : Prop := ∃ w0, ErrsAt w0 a ∧ w0.heap.size ≤ b ∧ Below w0.heap.size w0 w
theorem PE.at_ {b : Nat} {w : World} {a : Addr} (h : PE b w a) : ErrsAt w a := by
  obtain ⟨w0, h1, _, h3⟩ := h
  exact h1.below h3
theorem PE.grown {b : Nat} {w w' : World} {a : Addr} (h : PE b w a) (hg : w.grownBy w' (some b)) : PE b w' a := by
  obtain ⟨w0, h1, h2, h3⟩ := h
  exact ⟨w0, h1, h2, h3.grown hg h3.size (fun k hk => by injection hk with e; omega)⟩
theorem PE.alt {b : Nat} {w w' : World} {a : Addr} (h : PE b w a) (hb : Below w.heap.size w w') : PE b w' a := h.grown (grownBy_below (World.grownBy.refl w (some b)) hb)
/-- What acceptPeek hands back and leaves. -/
def ApP (w w' : World) (b T : Nat) (pre post : List Value) (s : ByteArray) (c : Sc) (x : LSt) (ks : List Int) (a : Addr) (e : Ending) : Prop := match c with
  | .eof => e = .returned (.tuple #[.bool false, .iface 116 (.pointer (some a))]) ∧ LexOut w w' b T pre post s .nilIface x
  | .bad => ∃ ev, ErrV ev ∧ e = .returned (.tuple #[.bool false, ev]) ∧ LexOut w w' b T pre post s ev x
  | .tok k => e = .returned (.tuple #[.bool (inK ks k), .nilIface]) ∧ LexOut w w' b T pre post s .nilIface x
theorem KsAt.grown {w w' : World} {b ka : Nat} {ks : List Int} (h : KsAt w ka ks) (hne : ka ≠ b) (hg : w.grownBy w' (some b)) : KsAt w' ka ks := by
  obtain ⟨t, h⟩ := h
  exact ⟨t, (hg.block ka (Array.getElem?_eq_some_iff.1 h).1 (fun e => by injection e with e; exact hne e)).trans h⟩
set_option maxRecDepth 100000 in
set_option maxHeartbeats 4000000 in
theorem acceptPeek_calls (w : World) (b T : Nat) (pre post : List Value) (s : ByteArray) (x : LSt) (p : Value) (ks : List Int) (ka n : Nat) (a : Addr) (h : LX w b T pre post s .nilIface x) (he : PE b w a) (hk : LGd s x) (hs : KsAt w ka ks) (hne : ka ≠ b) (hl : ks.length ≤ 100) (c : Sc) (y : LSt) (hc : pkT s x = (c, y)) (hk0 : ∀ k, c = .tok k → k ≠ 0) :
    Calls Tryz.prog 87 #[p, .pointer (some ⟨b, pre.length, none⟩), .slice (some ⟨ka, 0, none⟩) ks.length n] w fun e w' => ApP w w' b T pre post s c x ks a e := by
  have HL := Aside0.mk h
  have HE := Aside0.mk he
  have HK := Aside0.mk hk
  have HS := Aside0.mk hs
  have HC : Aside0 (scanF s (s.size + 1) x = (c, y)) := ⟨hc⟩
  have H0 := Aside0.mk hk0
  clear h he hk hs hc hk0
  have hu := Tryz.underlying169
  go_enter Tryz.func87, Tryz.ntmps87
  go_wp2_with fail
  refine (peek_calls _ b T pre post s x HL.out HK.out c y HC.out).mono ?_
  rintro e w1 hP
  cases c with
  | eof =>
    obtain ⟨rfl, hO⟩ := hP
    have HO := Aside0.mk hO
    clear hO
    unfold tok0
    have hE := (HE.out.grown (World.grownBy.trans HO.out.grown (grownBy_below (World.grownBy.refl _ (some b)) (below_alloc (Below.refl _ _) (.cells #[.int .i64 0, .string ⟨#[]⟩, .int .i64 0, .int .i64 0, .int .i64 0, .int .i64 0] 169))))).at_.eof
    go_wp2_with fail
    refine (isEOF_calls 0 _ _ _ _ _ _).mono ?_
    rintro e w2 ⟨rfl, hb⟩
    have HO2 := Aside0.mk ((HO.out.below (below_alloc (Below.refl _ _) _)).below hb)
    have hE2 := (hb.cell (World.block_lt_of_cell? _ _ hE)).trans hE
    clear hb hE
    go_wp2
    go_region
    all_goals
      go_wp2
      go_ret2
      exact ⟨rfl, HO2.out.below (below_drew (Below.refl _ _))⟩
  | bad =>
    obtain ⟨ev, hev, rfl, hO⟩ := hP
    obtain ⟨ti, pv, rfl, hti⟩ := hev
    have HT := Aside0.mk hti
    have HO := Aside0.mk hO
    clear hO hti
    unfold tok0
    go_wp2
    go_ret2
    exact ⟨_, ⟨ti, pv, rfl, HT.out⟩, rfl, HO.out.below (below_alloc (Below.refl _ _) _)⟩
  | tok k =>
    obtain ⟨rfl, hO⟩ := hP
    have HO := Aside0.mk hO
    have HSk := Aside0.mk ((HS.out.grown hne hO.grown).below (below_alloc (Below.refl _ _) (.cells #[.int .i64 k, .string (s.extract y.st.toNat y.p.toNat), .int .i64 y.st, .int .i64 y.p, .int .i64 y.cl, .int .i64 y.cs] 169)))
    clear hO
    have hk0 : (k == 0) = false := beq_eq_false_iff_ne.2 (H0.out k rfl)
    unfold tokV
    go_wp2_with fail
    refine (isEOF_calls k _ _ _ _ _ _).mono ?_
    rintro e w2 ⟨rfl, hb⟩
    have HO2 := Aside0.mk ((HO.out.below (below_alloc (Below.refl _ _) _)).below hb)
    have HS2 := Aside0.mk (HSk.out.below hb)
    have hB2 : ∀ j v, (w1.alloc (.cells #[.int .i64 k, .string (s.extract y.st.toNat y.p.toNat), .int .i64 y.st, .int .i64 y.p, .int .i64 y.cl, .int .i64 y.cs] 169)).cell? ⟨w1.heap.size, j, none⟩ = some v → w2.cell? ⟨w1.heap.size, j, none⟩ = some v := fun j v h => (hb.cell (World.block_lt_of_cell? _ _ h)).trans h
    have t0 := hB2 0 (.int .i64 k) (by simp)
    have t1 := hB2 1 (.string (s.extract y.st.toNat y.p.toNat)) (by simp)
    have t2 := hB2 2 (.int .i64 y.st) (by simp)
    have t3 := hB2 3 (.int .i64 y.p) (by simp)
    have t4 := hB2 4 (.int .i64 y.cl) (by simp)
    have t5 := hB2 5 (.int .i64 y.cs) (by simp)
    clear hb hB2
    go_wp2_with fail
    refine (isOneOf_calls ks k (s.extract y.st.toNat y.p.toNat) y ka n _ HS2.out hl).mono ?_
    rintro e w3 ⟨rfl, hb⟩
    have HO3 := Aside0.mk (HO2.out.below hb)
    clear hb t0 t1 t2 t3 t4 t5
    go_wp2
    go_ret2
    exact ⟨rfl, HO3.out⟩
/-- What accept hands back and leaves. -/
def AcP (w w' : World) (b T : Nat) (pre post : List Value) (s : ByteArray) (c : Sc) (x y : LSt) (ks : List Int) (a : Addr) (e : Ending) : Prop := match c with
  | .eof => e = .returned (.tuple #[.bool false, .iface 116 (.pointer (some a))]) ∧ LexOut w w' b T pre post s .nilIface x
  | .bad => ∃ ev, ErrV ev ∧ e = .returned (.tuple #[.bool false, ev]) ∧ LexOut w w' b T pre post s ev x
  | .tok k => e = .returned (.tuple #[.bool (inK ks k), .nilIface]) ∧ LexOut w w' b T pre post s .nilIface (if inK ks k = true then emitS y else x)
set_option maxRecDepth 100000 in
set_option maxHeartbeats 4000000 in
theorem accept_calls_p (w : World) (b T : Nat) (pre post : List Value) (s : ByteArray) (x : LSt) (p : Value) (ks : List Int) (ka n : Nat) (a : Addr) (h : LX w b T pre post s .nilIface x) (he : PE b w a) (hk : LGd s x) (hs : KsAt w ka ks) (hne : ka ≠ b) (hl : ks.length ≤ 100) (c : Sc) (y : LSt) (hc : pkT s x = (c, y)) (hk0 : ∀ k, c = .tok k → k ≠ 0) :
    Calls Tryz.prog 84 #[p, .pointer (some ⟨b, pre.length, none⟩), .slice (some ⟨ka, 0, none⟩) ks.length n] w fun e w' => AcP w w' b T pre post s c x y ks a e := by
  have HL := Aside0.mk h
  have HK := Aside0.mk hk
  have HC : Aside0 (scanF s (s.size + 1) x = (c, y)) := ⟨hc⟩
  have HA := Aside0.mk (acceptPeek_calls w b T pre post s x p ks ka n a h he hk hs hne hl c y hc hk0)
  clear h he hk hs hc hk0
  go_enter Tryz.func84, Tryz.ntmps84
  go_wp2_with fail
  refine HA.out.mono ?_
  rintro e w1 hP
  clear HA
  cases c with
  | eof =>
    obtain ⟨rfl, hO⟩ := hP
    have HO := Aside0.mk hO
    clear hO
    go_wp2
    go_ret2
    exact ⟨rfl, HO.out⟩
  | bad =>
    obtain ⟨ev, hev, rfl, hO⟩ := hP
    have HT := Aside0.mk hev
    have HO := Aside0.mk hO
    clear hO hev
    go_wp2
    go_ret2
    exact ⟨_, HT.out, rfl, HO.out⟩
  | tok k =>
    obtain ⟨rfl, hO⟩ := hP
    have HO := Aside0.mk hO
    clear hO
    obtain ⟨r, hr⟩ : ∃ r, inK ks k = r := ⟨_, rfl⟩
    have HR := Aside0.mk hr
    rw [hr]
    clear hr
    cases r with
    | false =>
      go_wp2
      go_ret2
      exact ⟨by rw [HR.out]; rfl, by rw [HR.out]; exact HO.out⟩
    | true =>
      go_wp2_with fail
      refine (scanT_calls _ b T pre post s x (HL.out.out HO.out) HK.out).mono ?_
      rw [HC.out]
      rintro e w2 ⟨rfl, hO2⟩
      have HO2 := Aside0.mk (HO.out.trans hO2)
      clear hO2
      unfold tokV
      go_wp2
      go_ret2
      exact ⟨by rw [HR.out]; rfl, by rw [HR.out]; exact HO2.out⟩
theorem six_new {w w' : World} {o : Obj} (hb : Below (w.alloc o).heap.size (w.alloc o) w') (v0 v1 v2 v3 v4 v5 : Value) (t : Nat) (ho : o = .cells #[v0, v1, v2, v3, v4, v5] t (0, 0)) : w'.cell? ⟨w.heap.size, 0, none⟩ = some v0 ∧ w'.cell? ⟨w.heap.size, 1, none⟩ = some v1 ∧ w'.cell? ⟨w.heap.size, 2, none⟩ = some v2 ∧ w'.cell? ⟨w.heap.size, 3, none⟩ = some v3 ∧ w'.cell? ⟨w.heap.size, 4, none⟩ = some v4 ∧ w'.cell? ⟨w.heap.size, 5, none⟩ = some v5 := by
  subst ho
  obtain ⟨hc, _⟩ := cells_in ((hb.block w.heap.size (by simp)).trans (heap_alloc_new w _))
  exact ⟨hc 0, hc 1, hc 2, hc 3, hc 4, hc 5⟩
theorem six_below {w w' : World} (hb : Below w.heap.size w w') {k : Nat} {v0 v1 v2 v3 v4 v5 : Value} (h : w.cell? ⟨k, 0, none⟩ = some v0 ∧ w.cell? ⟨k, 1, none⟩ = some v1 ∧ w.cell? ⟨k, 2, none⟩ = some v2 ∧ w.cell? ⟨k, 3, none⟩ = some v3 ∧ w.cell? ⟨k, 4, none⟩ = some v4 ∧ w.cell? ⟨k, 5, none⟩ = some v5) : w'.cell? ⟨k, 0, none⟩ = some v0 ∧ w'.cell? ⟨k, 1, none⟩ = some v1 ∧ w'.cell? ⟨k, 2, none⟩ = some v2 ∧ w'.cell? ⟨k, 3, none⟩ = some v3 ∧ w'.cell? ⟨k, 4, none⟩ = some v4 ∧ w'.cell? ⟨k, 5, none⟩ = some v5 := by
  have f : ∀ {a v}, w.cell? a = some v → w'.cell? a = some v := fun h => (hb.cell (World.block_lt_of_cell? _ _ h)).trans h
  exact ⟨f h.1, f h.2.1, f h.2.2.1, f h.2.2.2.1, f h.2.2.2.2.1, f h.2.2.2.2.2⟩
theorem six_keep {w : World} {g k : Nat} (h : ∃ c t, w.heap[g]? = some (.cells c t (0, 0))) (hne : g ≠ k) (v0 v1 v2 v3 v4 v5 : Value) : ∃ c t, ((((((w.setCell ⟨k, 0, none⟩ v0).setCell ⟨k, 1, none⟩ v1).setCell ⟨k, 2, none⟩ v2).setCell ⟨k, 3, none⟩ v3).setCell ⟨k, 4, none⟩ v4).setCell ⟨k, 5, none⟩ v5).heap[g]? = some (.cells c t (0, 0)) := by
  obtain ⟨c, t, h⟩ := h
  refine ⟨c, t, ?_⟩
  repeat rw [Below.heap_setCell _ _ _ _ hne]
  exact h
theorem six_grown {w w' : World} {b : Nat} (hg : w.grownBy w' (some b)) {k : Nat} (hne : k ≠ b) {v0 v1 v2 v3 v4 v5 : Value} {t : Nat} (h : w.heap[k]? = some (.cells #[v0, v1, v2, v3, v4, v5] t (0, 0))) : w'.cell? ⟨k, 0, none⟩ = some v0 ∧ w'.cell? ⟨k, 1, none⟩ = some v1 ∧ w'.cell? ⟨k, 2, none⟩ = some v2 ∧ w'.cell? ⟨k, 3, none⟩ = some v3 ∧ w'.cell? ⟨k, 4, none⟩ = some v4 ∧ w'.cell? ⟨k, 5, none⟩ = some v5 := by
  obtain ⟨hc, _⟩ := cells_in ((hg.block k (Array.getElem?_eq_some_iff.1 h).1 (fun e => by injection e with e; exact hne e)).trans h)
  exact ⟨hc 0, hc 1, hc 2, hc 3, hc 4, hc 5⟩
/-- What expectPeek hands back and leaves: with 'y0' as the state where the token fits. -/
def ExP (w w' : World) (b T : Nat) (pre post : List Value) (s : ByteArray) (c : Sc) (x y y0 : LSt) (ks : List Int) (a : Addr) (e : Ending) : Prop := match c with
  | .eof => e = .returned (.tuple #[tok0, .iface 116 (.pointer (some a))]) ∧ LexOut w w' b T pre post s .nilIface x
  | .bad => ∃ ev, ErrV ev ∧ e = .returned (.tuple #[tok0, ev]) ∧ LexOut w w' b T pre post s ev x
  | .tok k => if inK ks k = true then e = .returned (.tuple #[tokV k (s.extract y.st.toNat y.p.toNat) y, .nilIface]) ∧ LexOut w w' b T pre post s .nilIface y0 else ∃ g, w.heap.size ≤ g ∧ (∃ c t, w'.heap[g]? = some (.cells c t (0, 0))) ∧ e = .returned (.tuple #[tokV k (s.extract y.st.toNat y.p.toNat) y, .iface 116 (.pointer (some ⟨g, 0, none⟩))]) ∧ LexOut w w' b T pre post s .nilIface x
set_option maxRecDepth 100000 in
set_option maxHeartbeats 4000000 in
theorem expectPeek_calls (w : World) (b T : Nat) (pre post : List Value) (s : ByteArray) (x : LSt) (p : Value) (ks : List Int) (ka n : Nat) (a : Addr) (h : LX w b T pre post s .nilIface x) (he : PE b w a) (hk : LGd s x) (hs : KsAt w ka ks) (hne : ka ≠ b) (hl : ks.length ≤ 100) (c : Sc) (y : LSt) (hc : pkT s x = (c, y)) (hk0 : ∀ k, c = .tok k → k ≠ 0) :
    Calls Tryz.prog 143 #[p, .pointer (some ⟨b, pre.length, none⟩), .slice (some ⟨ka, 0, none⟩) ks.length n] w fun e w' => ExP w w' b T pre post s c x y x ks a e := by
  have HL := Aside0.mk h
  have HE := Aside0.mk he
  have HK := Aside0.mk hk
  have HS := Aside0.mk hs
  have HC : Aside0 (scanF s (s.size + 1) x = (c, y)) := ⟨hc⟩
  have H0 := Aside0.mk hk0
  have hlt := h.lex.lt
  have HLA := Aside0.mk (h.alloc (.cells #[.int .i64 0, .string ⟨#[]⟩, .int .i64 0, .int .i64 0, .int .i64 0, .int .i64 0] 169))
  have hge : 0 < w.heap.size := World.block_lt_of_cell? _ _ he.at_.eof
  clear h he hk hs hc hk0
  have hu := Tryz.underlying169
  go_enter Tryz.func143, Tryz.ntmps143
  go_wp2_with fail
  refine (peek_calls _ b T pre post s x HLA.out HK.out c y HC.out).mono ?_
  rintro e w1 hP
  cases c with
  | eof =>
    obtain ⟨rfl, hO⟩ := hP
    have hlt1 : w.heap.size < w1.heap.size := (Array.getElem?_eq_some_iff.1 (TZ.of hO hlt).blk).1
    have HZ1 := Aside0.mk ((TZ.of hO hlt).below (below_alloc (Below.refl _ _) (.cells #[.int .i64 0, .string ⟨#[]⟩, .int .i64 0, .int .i64 0, .int .i64 0, .int .i64 0] 169)))
    have hE := (((HE.out.grown (World.grownBy_alloc w (.cells #[.int .i64 0, .string ⟨#[]⟩, .int .i64 0, .int .i64 0, .int .i64 0, .int .i64 0] 169) (some b))).grown hO.grown).alt (below_alloc (Below.refl _ _) (.cells #[.int .i64 0, .string ⟨#[]⟩, .int .i64 0, .int .i64 0, .int .i64 0, .int .i64 0] 169))).at_.eof
    clear hO
    unfold tok0
    go_wp2_with fail
    refine (isEOF_calls 0 _ _ _ _ _ _).mono ?_
    rintro e w2 ⟨rfl, hb⟩
    have HZ2 := Aside0.mk (HZ1.out.below hb)
    have hE2 := (hb.cell (World.block_lt_of_cell? _ _ hE)).trans hE
    obtain ⟨t0, t1, t2, t3, t4, t5⟩ := six_new hb _ _ _ _ _ _ _ rfl
    clear hb hE
    have n1 : ¬ w.heap.size = w1.heap.size := by omega
    have n2 : ¬ w1.heap.size = w.heap.size := by omega
    have n3 : ¬ w.heap.size = 0 := by omega
    have n4 : ¬ 0 = w.heap.size := by omega
    obtain ⟨-, z0, z1, z2, z3, z4, z5, hfz, -⟩ := HZ2.out.facts
    go_wp2_with fail
    go_region_held3 (fun W => W.cell? ⟨w1.heap.size, 0, none⟩ = some (.int .i64 0) ∧ W.cell? ⟨w1.heap.size, 1, none⟩ = some (.string ⟨#[]⟩) ∧ W.cell? ⟨w1.heap.size, 2, none⟩ = some (.int .i64 0) ∧ W.cell? ⟨w1.heap.size, 3, none⟩ = some (.int .i64 0) ∧ W.cell? ⟨w1.heap.size, 4, none⟩ = some (.int .i64 0) ∧ W.cell? ⟨w1.heap.size, 5, none⟩ = some (.int .i64 0) ∧ W.cell? ⟨0, 0, none⟩ = some (.iface 116 (.pointer (some a)))) (first | go_keep) (first | fail)
    all_goals
      go_wp2
      have HD := Aside0.mk (HZ2.out.set6 hlt (.int .i64 0) (.string ⟨#[]⟩) (.int .i64 0) (.int .i64 0) (.int .i64 0) (.int .i64 0))
      generalize ((((((w2.setCell ⟨w.heap.size, 0, none⟩ (.int .i64 0)).setCell ⟨w.heap.size, 1, none⟩ (.string ⟨#[]⟩)).setCell ⟨w.heap.size, 2, none⟩ (.int .i64 0)).setCell ⟨w.heap.size, 3, none⟩ (.int .i64 0)).setCell ⟨w.heap.size, 4, none⟩ (.int .i64 0)).setCell ⟨w.heap.size, 5, none⟩ (.int .i64 0)) = W6 at HD ⊢
      obtain ⟨hc8, _⟩ := cells_in HD.out.2
      have r0 := hc8 0
      have r1 := hc8 1
      have r2 := hc8 2
      have r3 := hc8 3
      have r4 := hc8 4
      have r5 := hc8 5
      simp only [List.getElem?_toArray, List.getElem?_cons_zero, List.getElem?_cons_succ] at r0 r1 r2 r3 r4 r5
      exact bodyPost_ret (v := .tuple #[.agg #[.int .i64 0, .string ⟨#[]⟩, .int .i64 0, .int .i64 0, .int .i64 0, .int .i64 0], .iface 116 (.pointer (some a))]) (by simp [results, Tryz.results143, go_sem, r0, r1, r2, r3, r4, r5]) rfl ⟨rfl, HD.out.1.below (below_drew (Below.refl _ _))⟩
  | bad =>
    obtain ⟨ev, hev, rfl, hO⟩ := hP
    obtain ⟨ti, pv, rfl, hti⟩ := hev
    have HT := Aside0.mk hti
    have hlt1 : w.heap.size < w1.heap.size := (Array.getElem?_eq_some_iff.1 (TZ.of hO hlt).blk).1
    have HZ1 := Aside0.mk (TZ.of hO hlt)
    clear hO hti
    unfold tok0
    have n1 : ¬ w.heap.size = w1.heap.size := by omega
    have n2 : ¬ w1.heap.size = w.heap.size := by omega
    obtain ⟨-, z0, z1, z2, z3, z4, z5, hfz, -⟩ := HZ1.out.facts
    go_wp2
    have HD := Aside0.mk (HZ1.out.set6 hlt (.int .i64 0) (.string ⟨#[]⟩) (.int .i64 0) (.int .i64 0) (.int .i64 0) (.int .i64 0))
    generalize ((((((w1.setCell ⟨w.heap.size, 0, none⟩ (.int .i64 0)).setCell ⟨w.heap.size, 1, none⟩ (.string ⟨#[]⟩)).setCell ⟨w.heap.size, 2, none⟩ (.int .i64 0)).setCell ⟨w.heap.size, 3, none⟩ (.int .i64 0)).setCell ⟨w.heap.size, 4, none⟩ (.int .i64 0)).setCell ⟨w.heap.size, 5, none⟩ (.int .i64 0)) = W6 at HD ⊢
    obtain ⟨hc8, _⟩ := cells_in HD.out.2
    have r0 := hc8 0
    have r1 := hc8 1
    have r2 := hc8 2
    have r3 := hc8 3
    have r4 := hc8 4
    have r5 := hc8 5
    simp only [List.getElem?_toArray, List.getElem?_cons_zero, List.getElem?_cons_succ] at r0 r1 r2 r3 r4 r5
    have kk : ∀ {a : Addr} {v : Value}, W6.cell? a = some v → (W6.alloc (.cells #[.int .i64 0, .string ⟨#[]⟩, .int .i64 0, .int .i64 0, .int .i64 0, .int .i64 0] 169)).cell? a = some v := fun h => ((below_alloc (Below.refl _ _) _ : Below W6.heap.size W6 (W6.alloc (.cells #[.int .i64 0, .string ⟨#[]⟩, .int .i64 0, .int .i64 0, .int .i64 0, .int .i64 0] 169))).cell (World.block_lt_of_cell? _ _ h)).trans h
    replace r0 := kk r0
    replace r1 := kk r1
    replace r2 := kk r2
    replace r3 := kk r3
    replace r4 := kk r4
    replace r5 := kk r5
    exact bodyPost_ret (v := .tuple #[.agg #[.int .i64 0, .string ⟨#[]⟩, .int .i64 0, .int .i64 0, .int .i64 0, .int .i64 0], .iface ti pv]) (by simp [results, Tryz.results143, go_sem, r0, r1, r2, r3, r4, r5]) rfl ⟨_, ⟨ti, pv, rfl, HT.out⟩, rfl, HD.out.1.below (below_alloc (Below.refl _ _) _)⟩
  | tok k =>
    obtain ⟨rfl, hO⟩ := hP
    have hlt1 : w.heap.size < w1.heap.size := (Array.getElem?_eq_some_iff.1 (TZ.of hO hlt).blk).1
    have HZ1 := Aside0.mk ((TZ.of hO hlt).below (below_alloc (Below.refl _ _) (.cells #[.int .i64 k, .string (s.extract y.st.toNat y.p.toNat), .int .i64 y.st, .int .i64 y.p, .int .i64 y.cl, .int .i64 y.cs] 169)))
    have HS1 := Aside0.mk (((HS.out.below (below_alloc (Below.refl _ _) (.cells #[.int .i64 0, .string ⟨#[]⟩, .int .i64 0, .int .i64 0, .int .i64 0, .int .i64 0] 169))).grown hne hO.grown).below (below_alloc (Below.refl _ _) (.cells #[.int .i64 k, .string (s.extract y.st.toNat y.p.toNat), .int .i64 y.st, .int .i64 y.p, .int .i64 y.cl, .int .i64 y.cs] 169)))
    have hsz : w.heap.size ≤ w1.heap.size := Nat.le_of_lt hlt1
    clear hO
    have hk0 : (k == 0) = false := beq_eq_false_iff_ne.2 (H0.out k rfl)
    unfold tokV
    go_wp2_with fail
    refine (isEOF_calls k _ _ _ _ _ _).mono ?_
    rintro e w2 ⟨rfl, hb⟩
    have HZ2 := Aside0.mk (HZ1.out.below hb)
    have HS2 := Aside0.mk (HS1.out.below hb)
    obtain ⟨t0, t1, t2, t3, t4, t5⟩ := six_new hb _ _ _ _ _ _ _ rfl
    have HB2 := Aside0.mk hb
    have hz2 : w1.heap.size < w2.heap.size := by have := hb.size; simp at this; omega
    clear hb
    go_wp2_with fail
    refine (isOneOf_calls ks k (s.extract y.st.toNat y.p.toNat) y ka n _ HS2.out hl).mono ?_
    rintro e w3 ⟨rfl, hb⟩
    have HZ3 := Aside0.mk (HZ2.out.below hb)
    replace t0 := (hb.cell (World.block_lt_of_cell? _ _ t0)).trans t0
    replace t1 := (hb.cell (World.block_lt_of_cell? _ _ t1)).trans t1
    replace t2 := (hb.cell (World.block_lt_of_cell? _ _ t2)).trans t2
    replace t3 := (hb.cell (World.block_lt_of_cell? _ _ t3)).trans t3
    replace t4 := (hb.cell (World.block_lt_of_cell? _ _ t4)).trans t4
    replace t5 := (hb.cell (World.block_lt_of_cell? _ _ t5)).trans t5
    have hz3 : w1.heap.size < w3.heap.size := Nat.lt_of_lt_of_le hz2 hb.size
    clear hb
    have n1 : ¬ w.heap.size = w1.heap.size := by omega
    have n2 : ¬ w1.heap.size = w.heap.size := by omega
    obtain ⟨-, z0, z1, z2, z3, z4, z5, hfz, -⟩ := HZ3.out.facts
    obtain ⟨r, hr⟩ : ∃ r, inK ks k = r := ⟨_, rfl⟩
    have HR := Aside0.mk hr
    rw [hr]
    clear hr
    cases r with
    | true =>
      go_wp2
      have HD := Aside0.mk (HZ3.out.set6 hlt (.int .i64 k) (.string (s.extract y.st.toNat y.p.toNat)) (.int .i64 y.st) (.int .i64 y.p) (.int .i64 y.cl) (.int .i64 y.cs))
      generalize ((((((w3.setCell ⟨w.heap.size, 0, none⟩ (.int .i64 k)).setCell ⟨w.heap.size, 1, none⟩ (.string (s.extract y.st.toNat y.p.toNat))).setCell ⟨w.heap.size, 2, none⟩ (.int .i64 y.st)).setCell ⟨w.heap.size, 3, none⟩ (.int .i64 y.p)).setCell ⟨w.heap.size, 4, none⟩ (.int .i64 y.cl)).setCell ⟨w.heap.size, 5, none⟩ (.int .i64 y.cs)) = W6 at HD ⊢
      obtain ⟨hc8, _⟩ := cells_in HD.out.2
      have r0 := hc8 0
      have r1 := hc8 1
      have r2 := hc8 2
      have r3 := hc8 3
      have r4 := hc8 4
      have r5 := hc8 5
      simp only [List.getElem?_toArray, List.getElem?_cons_zero, List.getElem?_cons_succ] at r0 r1 r2 r3 r4 r5
      exact bodyPost_ret (v := .tuple #[.agg #[.int .i64 k, .string (s.extract y.st.toNat y.p.toNat), .int .i64 y.st, .int .i64 y.p, .int .i64 y.cl, .int .i64 y.cs], .nilIface]) (by simp [results, Tryz.results143, go_sem, r0, r1, r2, r3, r4, r5]) rfl (by unfold ExP; simp only; rw [if_pos HR.out]; exact ⟨rfl, HD.out.1⟩)
    | false =>
      have HT0 : Aside0 (TZ w w3.drew b T pre post s .nilIface x) := ⟨HZ3.out.below (below_drew (Below.refl _ _))⟩
      go_wp2_with fail
      have hS0 : w3.drew.cell? ⟨w1.heap.size, 0, none⟩ = some (.int .i64 k) ∧ w3.drew.cell? ⟨w1.heap.size, 1, none⟩ = some (.string (s.extract y.st.toNat y.p.toNat)) ∧ w3.drew.cell? ⟨w1.heap.size, 2, none⟩ = some (.int .i64 y.st) ∧ w3.drew.cell? ⟨w1.heap.size, 3, none⟩ = some (.int .i64 y.p) ∧ w3.drew.cell? ⟨w1.heap.size, 4, none⟩ = some (.int .i64 y.cl) ∧ w3.drew.cell? ⟨w1.heap.size, 5, none⟩ = some (.int .i64 y.cs) := ⟨t0, t1, t2, t3, t4, t5⟩
      go_region_held3 (fun W => W.cell? ⟨w1.heap.size, 0, none⟩ = some (.int .i64 k) ∧ W.cell? ⟨w1.heap.size, 1, none⟩ = some (.string (s.extract y.st.toNat y.p.toNat)) ∧ W.cell? ⟨w1.heap.size, 2, none⟩ = some (.int .i64 y.st) ∧ W.cell? ⟨w1.heap.size, 3, none⟩ = some (.int .i64 y.p) ∧ W.cell? ⟨w1.heap.size, 4, none⟩ = some (.int .i64 y.cl) ∧ W.cell? ⟨w1.heap.size, 5, none⟩ = some (.int .i64 y.cs)) (first | (with_reducible exact hS0) | (with_reducible exact hS1) | go_keep) (first | (go_at_call 41; (with_reducible refine (errNew2_calls _ w3.drew).mono ?_); rintro e w4 ⟨g, rfl, hg, hgb, hb4⟩; have hS1 := six_below hb4 hS0; have HT1 : Aside0 (TZ w w4 b T pre post s .nilIface x) := ⟨HT0.out.below hb4⟩; obtain ⟨-, y0, y1, y2, y3, y4, y5, hfy, -⟩ := HT1.out.facts; have HG := Aside0.mk (And.intro hg hgb); clear hg hgb))
      go_wp2
      have HD := Aside0.mk (HT1.out.set6 hlt (.int .i64 k) (.string (s.extract y.st.toNat y.p.toNat)) (.int .i64 y.st) (.int .i64 y.p) (.int .i64 y.cl) (.int .i64 y.cs))
      have HX : Aside0 (∃ c t, ((((((w4.setCell ⟨w.heap.size, 0, none⟩ (.int .i64 k)).setCell ⟨w.heap.size, 1, none⟩ (.string (s.extract y.st.toNat y.p.toNat))).setCell ⟨w.heap.size, 2, none⟩ (.int .i64 y.st)).setCell ⟨w.heap.size, 3, none⟩ (.int .i64 y.p)).setCell ⟨w.heap.size, 4, none⟩ (.int .i64 y.cl)).setCell ⟨w.heap.size, 5, none⟩ (.int .i64 y.cs)).heap[g]? = some (.cells c t (0, 0))) := ⟨six_keep HG.out.2 (by have := HG.out.1; simp at this; omega) _ _ _ _ _ _⟩
      generalize ((((((w4.setCell ⟨w.heap.size, 0, none⟩ (.int .i64 k)).setCell ⟨w.heap.size, 1, none⟩ (.string (s.extract y.st.toNat y.p.toNat))).setCell ⟨w.heap.size, 2, none⟩ (.int .i64 y.st)).setCell ⟨w.heap.size, 3, none⟩ (.int .i64 y.p)).setCell ⟨w.heap.size, 4, none⟩ (.int .i64 y.cl)).setCell ⟨w.heap.size, 5, none⟩ (.int .i64 y.cs)) = W6 at HD HX ⊢
      obtain ⟨hc8, _⟩ := cells_in HD.out.2
      have r0 := hc8 0
      have r1 := hc8 1
      have r2 := hc8 2
      have r3 := hc8 3
      have r4 := hc8 4
      have r5 := hc8 5
      simp only [List.getElem?_toArray, List.getElem?_cons_zero, List.getElem?_cons_succ] at r0 r1 r2 r3 r4 r5
      exact bodyPost_ret (v := .tuple #[.agg #[.int .i64 k, .string (s.extract y.st.toNat y.p.toNat), .int .i64 y.st, .int .i64 y.p, .int .i64 y.cl, .int .i64 y.cs], .iface 116 (.pointer (some ⟨g, 0, none⟩))]) (by simp [results, Tryz.results143, go_sem, r0, r1, r2, r3, r4, r5]) rfl (by unfold ExP; simp only; rw [if_neg (by rw [HR.out]; decide)]; exact ⟨g, Nat.le_trans (Nat.le_of_lt (Nat.lt_trans hlt1 hz3)) HG.out.1, HX.out, rfl, HD.out.1⟩)
set_option maxRecDepth 100000 in
set_option maxHeartbeats 4000000 in
theorem expect_calls_p (w : World) (b T : Nat) (pre post : List Value) (s : ByteArray) (x : LSt) (p : Value) (ks : List Int) (ka n : Nat) (a : Addr) (h : LX w b T pre post s .nilIface x) (he : PE b w a) (hk : LGd s x) (hs : KsAt w ka ks) (hne : ka ≠ b) (hl : ks.length ≤ 100) (c : Sc) (y : LSt) (hc : pkT s x = (c, y)) (hk0 : ∀ k, c = .tok k → k ≠ 0) :
    Calls Tryz.prog 115 #[p, .pointer (some ⟨b, pre.length, none⟩), .slice (some ⟨ka, 0, none⟩) ks.length n] w fun e w' => ExP w w' b T pre post s c x y (emitS y) ks a e := by
  have HK := Aside0.mk hk
  have HC : Aside0 (scanF s (s.size + 1) x = (c, y)) := ⟨hc⟩
  have hlt := h.lex.lt
  have HLA := Aside0.mk (h.alloc (.cells #[.int .i64 0, .string ⟨#[]⟩, .int .i64 0, .int .i64 0, .int .i64 0, .int .i64 0] 169))
  have HX := Aside0.mk (expectPeek_calls (w.alloc (.cells #[.int .i64 0, .string ⟨#[]⟩, .int .i64 0, .int .i64 0, .int .i64 0, .int .i64 0] 169)) b T pre post s x p ks ka n a HLA.out (he.alt (below_alloc (Below.refl _ _) _)) hk (hs.below (below_alloc (Below.refl _ _) _)) hne hl c y hc hk0)
  clear h he hk hs hc hk0
  have hu := Tryz.underlying169
  go_enter Tryz.func115, Tryz.ntmps115
  go_wp2_with fail
  refine HX.out.mono ?_
  rintro e w1 hP
  clear HX
  cases c with
  | eof =>
    obtain ⟨rfl, hO⟩ := hP
    unfold tok0
    have hlt1 : w.heap.size < w1.heap.size := (Array.getElem?_eq_some_iff.1 (TZ.of hO hlt).blk).1
    have HZ1 := Aside0.mk (TZ.of hO hlt)
    clear hO
    have n1 : ¬ w.heap.size = w1.heap.size := by omega
    have n2 : ¬ w1.heap.size = w.heap.size := by omega
    obtain ⟨-, z0, z1, z2, z3, z4, z5, hfz, -⟩ := HZ1.out.facts
    go_wp2
    have HD := Aside0.mk (HZ1.out.set6 hlt (.int .i64 0) (.string ⟨#[]⟩) (.int .i64 0) (.int .i64 0) (.int .i64 0) (.int .i64 0))
    generalize ((((((w1.setCell ⟨w.heap.size, 0, none⟩ (.int .i64 0)).setCell ⟨w.heap.size, 1, none⟩ (.string ⟨#[]⟩)).setCell ⟨w.heap.size, 2, none⟩ (.int .i64 0)).setCell ⟨w.heap.size, 3, none⟩ (.int .i64 0)).setCell ⟨w.heap.size, 4, none⟩ (.int .i64 0)).setCell ⟨w.heap.size, 5, none⟩ (.int .i64 0)) = W6 at HD ⊢
    obtain ⟨hc8, _⟩ := cells_in HD.out.2
    have r0 := hc8 0
    have r1 := hc8 1
    have r2 := hc8 2
    have r3 := hc8 3
    have r4 := hc8 4
    have r5 := hc8 5
    simp only [List.getElem?_toArray, List.getElem?_cons_zero, List.getElem?_cons_succ] at r0 r1 r2 r3 r4 r5
    have kk : ∀ {a : Addr} {v : Value}, W6.cell? a = some v → (W6.alloc (.cells #[.int .i64 0, .string ⟨#[]⟩, .int .i64 0, .int .i64 0, .int .i64 0, .int .i64 0] 169)).cell? a = some v := fun h => ((below_alloc (Below.refl _ _) _ : Below W6.heap.size W6 (W6.alloc (.cells #[.int .i64 0, .string ⟨#[]⟩, .int .i64 0, .int .i64 0, .int .i64 0, .int .i64 0] 169))).cell (World.block_lt_of_cell? _ _ h)).trans h
    replace r0 := kk r0
    replace r1 := kk r1
    replace r2 := kk r2
    replace r3 := kk r3
    replace r4 := kk r4
    replace r5 := kk r5
    exact bodyPost_ret (v := .tuple #[.agg #[.int .i64 0, .string ⟨#[]⟩, .int .i64 0, .int .i64 0, .int .i64 0, .int .i64 0], .iface 116 (.pointer (some a))]) (by simp [results, Tryz.results115, go_sem, r0, r1, r2, r3, r4, r5]) rfl ⟨rfl, HD.out.1.below (below_alloc (Below.refl _ _) _)⟩
  | bad =>
    obtain ⟨ev, hev, rfl, hO⟩ := hP
    obtain ⟨ti, pv, rfl, hti⟩ := hev
    have HT := Aside0.mk hti
    clear hti
    unfold tok0
    have hlt1 : w.heap.size < w1.heap.size := (Array.getElem?_eq_some_iff.1 (TZ.of hO hlt).blk).1
    have HZ1 := Aside0.mk (TZ.of hO hlt)
    clear hO
    have n1 : ¬ w.heap.size = w1.heap.size := by omega
    have n2 : ¬ w1.heap.size = w.heap.size := by omega
    obtain ⟨-, z0, z1, z2, z3, z4, z5, hfz, -⟩ := HZ1.out.facts
    go_wp2
    have HD := Aside0.mk (HZ1.out.set6 hlt (.int .i64 0) (.string ⟨#[]⟩) (.int .i64 0) (.int .i64 0) (.int .i64 0) (.int .i64 0))
    generalize ((((((w1.setCell ⟨w.heap.size, 0, none⟩ (.int .i64 0)).setCell ⟨w.heap.size, 1, none⟩ (.string ⟨#[]⟩)).setCell ⟨w.heap.size, 2, none⟩ (.int .i64 0)).setCell ⟨w.heap.size, 3, none⟩ (.int .i64 0)).setCell ⟨w.heap.size, 4, none⟩ (.int .i64 0)).setCell ⟨w.heap.size, 5, none⟩ (.int .i64 0)) = W6 at HD ⊢
    obtain ⟨hc8, _⟩ := cells_in HD.out.2
    have r0 := hc8 0
    have r1 := hc8 1
    have r2 := hc8 2
    have r3 := hc8 3
    have r4 := hc8 4
    have r5 := hc8 5
    simp only [List.getElem?_toArray, List.getElem?_cons_zero, List.getElem?_cons_succ] at r0 r1 r2 r3 r4 r5
    have kk : ∀ {a : Addr} {v : Value}, W6.cell? a = some v → (W6.alloc (.cells #[.int .i64 0, .string ⟨#[]⟩, .int .i64 0, .int .i64 0, .int .i64 0, .int .i64 0] 169)).cell? a = some v := fun h => ((below_alloc (Below.refl _ _) _ : Below W6.heap.size W6 (W6.alloc (.cells #[.int .i64 0, .string ⟨#[]⟩, .int .i64 0, .int .i64 0, .int .i64 0, .int .i64 0] 169))).cell (World.block_lt_of_cell? _ _ h)).trans h
    replace r0 := kk r0
    replace r1 := kk r1
    replace r2 := kk r2
    replace r3 := kk r3
    replace r4 := kk r4
    replace r5 := kk r5
    exact bodyPost_ret (v := .tuple #[.agg #[.int .i64 0, .string ⟨#[]⟩, .int .i64 0, .int .i64 0, .int .i64 0, .int .i64 0], .iface ti pv]) (by simp [results, Tryz.results115, go_sem, r0, r1, r2, r3, r4, r5]) rfl ⟨_, ⟨ti, pv, rfl, HT.out⟩, rfl, HD.out.1.below (below_alloc (Below.refl _ _) _)⟩
  | tok k =>
    unfold ExP at hP
    simp only at hP
    by_cases hr : inK ks k = true
    · rw [if_pos hr] at hP
      have HR := Aside0.mk hr
      clear hr
      obtain ⟨rfl, hO⟩ := hP
      unfold tokV
      have hlt1 : w.heap.size < w1.heap.size := (Array.getElem?_eq_some_iff.1 (TZ.of hO hlt).blk).1
      have HO := Aside0.mk hO
      clear hO
      go_wp2_with fail
      refine (scanT_calls _ b T pre post s x ((HLA.out.out HO.out).alloc (.cells #[.int .i64 k, .string (s.extract y.st.toNat y.p.toNat), .int .i64 y.st, .int .i64 y.p, .int .i64 y.cl, .int .i64 y.cs] 169)) HK.out).mono ?_
      rw [HC.out]
      rintro e w2 ⟨rfl, hO2⟩
      have HZ2 := Aside0.mk (TZ.of ((HO.out.below (below_alloc (Below.refl _ _) (.cells #[.int .i64 k, .string (s.extract y.st.toNat y.p.toNat), .int .i64 y.st, .int .i64 y.p, .int .i64 y.cl, .int .i64 y.cs] 169))).trans hO2) hlt)
      obtain ⟨t0, t1, t2, t3, t4, t5⟩ := six_grown hO2.grown (by omega) (heap_alloc_new w1 (.cells #[.int .i64 k, .string (s.extract y.st.toNat y.p.toNat), .int .i64 y.st, .int .i64 y.p, .int .i64 y.cl, .int .i64 y.cs] 169))
      clear hO2
      unfold tokV
      have n1 : ¬ w.heap.size = w1.heap.size := by omega
      have n2 : ¬ w1.heap.size = w.heap.size := by omega
      obtain ⟨-, z0, z1, z2, z3, z4, z5, hfz, -⟩ := HZ2.out.facts
      go_wp2
      have HD := Aside0.mk (HZ2.out.set6 hlt (.int .i64 k) (.string (s.extract y.st.toNat y.p.toNat)) (.int .i64 y.st) (.int .i64 y.p) (.int .i64 y.cl) (.int .i64 y.cs))
      generalize ((((((w2.setCell ⟨w.heap.size, 0, none⟩ (.int .i64 k)).setCell ⟨w.heap.size, 1, none⟩ (.string (s.extract y.st.toNat y.p.toNat))).setCell ⟨w.heap.size, 2, none⟩ (.int .i64 y.st)).setCell ⟨w.heap.size, 3, none⟩ (.int .i64 y.p)).setCell ⟨w.heap.size, 4, none⟩ (.int .i64 y.cl)).setCell ⟨w.heap.size, 5, none⟩ (.int .i64 y.cs)) = W6 at HD ⊢
      obtain ⟨hc8, _⟩ := cells_in HD.out.2
      have r0 := hc8 0
      have r1 := hc8 1
      have r2 := hc8 2
      have r3 := hc8 3
      have r4 := hc8 4
      have r5 := hc8 5
      simp only [List.getElem?_toArray, List.getElem?_cons_zero, List.getElem?_cons_succ] at r0 r1 r2 r3 r4 r5
      exact bodyPost_ret (v := .tuple #[.agg #[.int .i64 k, .string (s.extract y.st.toNat y.p.toNat), .int .i64 y.st, .int .i64 y.p, .int .i64 y.cl, .int .i64 y.cs], .nilIface]) (by simp [results, Tryz.results115, go_sem, r0, r1, r2, r3, r4, r5]) rfl (by unfold ExP; simp only; rw [if_pos HR.out]; exact ⟨rfl, HD.out.1⟩)
    · rw [if_neg hr] at hP
      have HR := Aside0.mk hr
      clear hr
      obtain ⟨g, hg, hgb, rfl, hO⟩ := hP
      have HG := Aside0.mk (And.intro hg hgb)
      clear hg hgb
      unfold tokV
      have hlt1 : w.heap.size < w1.heap.size := (Array.getElem?_eq_some_iff.1 (TZ.of hO hlt).blk).1
      have HZ1 := Aside0.mk (TZ.of hO hlt)
      clear hO
      have n1 : ¬ w.heap.size = w1.heap.size := by omega
      have n2 : ¬ w1.heap.size = w.heap.size := by omega
      obtain ⟨-, z0, z1, z2, z3, z4, z5, hfz, -⟩ := HZ1.out.facts
      go_wp2
      have HD := Aside0.mk (HZ1.out.set6 hlt (.int .i64 k) (.string (s.extract y.st.toNat y.p.toNat)) (.int .i64 y.st) (.int .i64 y.p) (.int .i64 y.cl) (.int .i64 y.cs))
      have HX : Aside0 (∃ c t, ((((((w1.setCell ⟨w.heap.size, 0, none⟩ (.int .i64 k)).setCell ⟨w.heap.size, 1, none⟩ (.string (s.extract y.st.toNat y.p.toNat))).setCell ⟨w.heap.size, 2, none⟩ (.int .i64 y.st)).setCell ⟨w.heap.size, 3, none⟩ (.int .i64 y.p)).setCell ⟨w.heap.size, 4, none⟩ (.int .i64 y.cl)).setCell ⟨w.heap.size, 5, none⟩ (.int .i64 y.cs)).heap[g]? = some (.cells c t (0, 0))) := ⟨six_keep HG.out.2 (by have := HG.out.1; simp at this; omega) _ _ _ _ _ _⟩
      generalize ((((((w1.setCell ⟨w.heap.size, 0, none⟩ (.int .i64 k)).setCell ⟨w.heap.size, 1, none⟩ (.string (s.extract y.st.toNat y.p.toNat))).setCell ⟨w.heap.size, 2, none⟩ (.int .i64 y.st)).setCell ⟨w.heap.size, 3, none⟩ (.int .i64 y.p)).setCell ⟨w.heap.size, 4, none⟩ (.int .i64 y.cl)).setCell ⟨w.heap.size, 5, none⟩ (.int .i64 y.cs)) = W6 at HD HX ⊢
      obtain ⟨hc8, _⟩ := cells_in HD.out.2
      have r0 := hc8 0
      have r1 := hc8 1
      have r2 := hc8 2
      have r3 := hc8 3
      have r4 := hc8 4
      have r5 := hc8 5
      simp only [List.getElem?_toArray, List.getElem?_cons_zero, List.getElem?_cons_succ] at r0 r1 r2 r3 r4 r5
      have kk : ∀ {a : Addr} {v : Value}, W6.cell? a = some v → (W6.alloc (.cells #[.int .i64 k, .string (s.extract y.st.toNat y.p.toNat), .int .i64 y.st, .int .i64 y.p, .int .i64 y.cl, .int .i64 y.cs] 169)).cell? a = some v := fun h => ((below_alloc (Below.refl _ _) _ : Below W6.heap.size W6 (W6.alloc (.cells #[.int .i64 k, .string (s.extract y.st.toNat y.p.toNat), .int .i64 y.st, .int .i64 y.p, .int .i64 y.cl, .int .i64 y.cs] 169))).cell (World.block_lt_of_cell? _ _ h)).trans h
      replace r0 := kk r0
      replace r1 := kk r1
      replace r2 := kk r2
      replace r3 := kk r3
      replace r4 := kk r4
      replace r5 := kk r5
      exact bodyPost_ret (v := .tuple #[.agg #[.int .i64 k, .string (s.extract y.st.toNat y.p.toNat), .int .i64 y.st, .int .i64 y.p, .int .i64 y.cl, .int .i64 y.cs], .iface 116 (.pointer (some ⟨g, 0, none⟩))]) (by simp [results, Tryz.results115, go_sem, r0, r1, r2, r3, r4, r5]) rfl (by unfold ExP; simp only; rw [if_neg HR.out]; exact ⟨g, by have := HG.out.1; simp at this; omega, by obtain ⟨c, t, z⟩ := HX.out; exact ⟨c, t, blk_below z (below_alloc (Below.refl _ _) _)⟩, rfl, HD.out.1.below (below_alloc (Below.refl _ _) _)⟩)
end Go.Proofs.YtnnhehlieakedaaGreatDoor.Q
namespace Go.Proofs.YtnnhehlieakedaaGreatDoor.Q
open Go.RowKit Go.Lib Go.Proofs.YtnnhehlieakedaaGreatDoorW.PrintWords Go.Proofs.YtnnhehlieakedaaGreatDoorW.PrintLast Go.Proofs.YtnnhehlieakedaaGreatDoorW.PrintMore
attribute [local go_sem] max2_int min2_int max_two min_two max_three min_three max_four min_four
/-- The parser in memory. -/
structure PX (w0 w : World) (a : Addr) (b : Nat) (s : ByteArray) (q : PSt) (mv err : Value) : Prop where
  lex : LexAt w b 92 [mv, .bool q.hob] [] s err q.x
  out : Kd.R (ptrK 82 k25) 48 w w0.heap.size (fun _ => True) mv q.ms
  bel : Below w0.heap.size w0 w
  low : w0.heap.size ≤ b
  gd : LGd s q.x
  tb : TBl w0
  er : ErrsAt w0 a
def Pn.fn : Pn → Nat
  | .ob => 72
  | .cb => 88
  | .ma => 89
  | .en => 117
  | .co => 146
  | .eo => 86
def fnV (b : Nat) : Option Pn → Value
  | none => .nilFunc
  | some f => .func (.func f.fn) #[.pointer (some ⟨b, 0, none⟩)] #[]
/-- What a step of the parser hands back and leaves. -/
def StP (w0 w' : World) (a : Addr) (b : Nat) (s : ByteArray) (o : Option (Option Pn × PSt)) (e : Ending) : Prop := match o with
  | none => ∃ ti pv, e = .returned (.tuple #[.nilFunc, .iface ti pv]) ∧ Below w0.heap.size w0 w'
  | some (f, q') => e = .returned (.tuple #[fnV b f, .nilIface]) ∧ ∃ mv, PX w0 w' a b s q' mv .nilIface
section
variable {w0 w w' : World} {a : Addr} {b : Nat} {s : ByteArray} {q : PSt} {mv err err' : Value} {y : LSt}
theorem PX.lx (h : PX w0 w a b s q mv err) : LX w b 92 [mv, .bool q.hob] [] s err q.x := ⟨h.lex, ⟨w0, h.tb, h.low, h.bel⟩⟩
theorem PX.pe (h : PX w0 w a b s q mv err) : PE b w a := ⟨w0, h.er, h.low, h.bel⟩
theorem PX.outs (h : PX w0 w a b s q mv err) (ho : LexOut w w' b 92 [mv, .bool q.hob] [] s err' y) (hg : LGd s y) : PX w0 w' a b s { q with x := y } mv err' := by
  refine ⟨ho.lex, ?_, h.bel.grown ho.grown h.bel.size (fun k hk => by injection hk with e; have := h.low; omega), h.low, hg, h.tb, h.er⟩
  refine Kd.R_over' (v := .slice (some ⟨b, 0, none⟩) 0 0) (e' := 92) h.out (fun k hk => ?_) (by decide) ho.grown
  have e : some b = some k := hk
  injection e with e
  exact ⟨_, by rw [← e]; exact h.lex⟩
theorem PX.out0 (h : PX w0 w a b s q mv err) (ho : LexOut w w' b 92 [mv, .bool q.hob] [] s err' q.x) : PX w0 w' a b s q mv err' := h.outs ho h.gd
theorem PX.below (h : PX w0 w a b s q mv err) (hb : Below w.heap.size w w') : PX w0 w' a b s q mv err :=
  ⟨h.lex.below hb, Kd.R_below h.out hb, h.bel.trans (hb.mono h.bel.size), h.low, h.gd, h.tb, h.er⟩
theorem PX.cmv (h : PX w0 w a b s q mv err) : w.cell? ⟨b, 0, none⟩ = some mv := by
  have := h.lex
  unfold LexAt at this
  rw [Lib.cell_of_heap this]
  rfl
theorem PX.chob (h : PX w0 w a b s q mv err) : w.cell? ⟨b, 1, none⟩ = some (.bool q.hob) := by
  have := h.lex
  unfold LexAt at this
  rw [Lib.cell_of_heap this]
  rfl
theorem tok_ne0 {x y : LSt} (g : LGd s x) {c : Sc} (hc : pkT s x = (c, y)) : ∀ k, c = .tok k → k ≠ 0 := fun k e => by
  have := ((scanF_good _ g c y hc).2 k e).2.1
  omega
theorem good_of {x y : LSt} (g : LGd s x) {c : Sc} (hc : pkT s x = (c, y)) : LGd s y := (scanF_good _ g c y hc).1
end
set_option maxRecDepth 100000 in
set_option maxHeartbeats 2000000 in
theorem parseEOF_calls (w0 w : World) (a : Addr) (b : Nat) (s : ByteArray) (q : PSt) (mv : Value) (h : PX w0 w a b s q mv .nilIface) :
    Calls Tryz.prog 86 #[.pointer (some ⟨b, 0, none⟩), .pointer (some ⟨b, 2, none⟩)] w fun e w' => StP w0 w' a b s (stepP s .eo q) e := by
  obtain ⟨c, hc⟩ : ∃ c, pkT s q.x = c := ⟨_, rfl⟩
  obtain ⟨c, y⟩ := c
  have HP := Aside0.mk h
  have HC : Aside0 (scanF s (s.size + 1) q.x = (c, y)) := ⟨hc⟩
  have H0 := Aside0.mk (tok_ne0 h.gd hc)
  have HY := Aside0.mk (good_of h.gd hc)
  have hu := Tryz.underlying169
  cases c with
  | eof =>
    have hS : stepP s .eo q = some (none, { q with x := y }) := by unfold stepP; simp only [hc]
    rw [hS]
    clear hc hS h
    go_enter Tryz.func86, Tryz.ntmps86
    go_wp2_with fail
    refine (scanT_calls w b _ [mv, .bool q.hob] [] s q.x HP.out.lx HP.out.gd).mono ?_
    rw [HC.out]
    rintro e w1 ⟨rfl, hO⟩
    have HQ := Aside0.mk ((HP.out.outs hO HY.out).below (below_alloc (Below.refl _ _) (.cells #[.int .i64 0, .string ⟨#[]⟩, .int .i64 0, .int .i64 0, .int .i64 0, .int .i64 0] 169)))
    clear hO
    unfold tok0
    go_wp2_with fail
    refine (isEOF_calls 0 _ _ _ _ _ _).mono ?_
    rintro e w2 ⟨rfl, hb⟩
    have HQ2 := Aside0.mk (HQ.out.below hb)
    clear hb
    go_wp2
    go_ret2
    exact ⟨rfl, _, HQ2.out⟩
  | bad =>
    have hS : stepP s .eo q = none := by unfold stepP; simp only [hc]
    rw [hS]
    clear hc hS h
    go_enter Tryz.func86, Tryz.ntmps86
    go_wp2_with fail
    refine (scanT_calls w b _ [mv, .bool q.hob] [] s q.x HP.out.lx HP.out.gd).mono ?_
    rw [HC.out]
    rintro e w1 ⟨ev, ⟨ti, pv, rfl, _⟩, rfl, hO⟩
    have HQ := HP.out.outs hO HY.out
    have HB := Aside0.mk HQ.bel
    obtain ⟨et, ep, hE⟩ := (HQ.pe.alt (below_alloc (Below.refl _ _) (.cells #[.int .i64 0, .string ⟨#[]⟩, .int .i64 0, .int .i64 0, .int .i64 0, .int .i64 0] 169))).at_.e1
    clear hO HQ
    unfold tok0
    go_wp2
    try go_region
    all_goals
      try go_wp2
      try go_ret2
      exact ⟨_, _, rfl, by repeat (first | exact HB.out | apply below_alloc | apply below_drew)⟩
  | tok k =>
    have hS : stepP s .eo q = none := by unfold stepP; simp only [hc]
    rw [hS]
    clear hc hS h
    go_enter Tryz.func86, Tryz.ntmps86
    go_wp2_with fail
    refine (scanT_calls w b _ [mv, .bool q.hob] [] s q.x HP.out.lx HP.out.gd).mono ?_
    rw [HC.out]
    rintro e w1 ⟨rfl, hO⟩
    have HQ := HP.out.outs hO HY.out.emit
    have HQA := Aside0.mk (HQ.below (below_alloc (Below.refl _ _) (.cells #[.int .i64 k, .string (s.extract y.st.toNat y.p.toNat), .int .i64 y.st, .int .i64 y.p, .int .i64 y.cl, .int .i64 y.cs] 169)))
    have hk0 : (k == 0) = false := beq_eq_false_iff_ne.2 (H0.out k rfl)
    clear hO HQ
    unfold tokV
    go_wp2_with fail
    refine (isEOF_calls k _ _ _ _ _ _).mono ?_
    rintro e w2 ⟨rfl, hb⟩
    have HB := Aside0.mk (HQA.out.below hb).bel
    obtain ⟨et, ep, hE⟩ := (HQA.out.below hb).pe.at_.e1
    clear hb
    go_wp2
    try go_region
    all_goals
      try go_wp2
      try go_ret2
      exact ⟨_, _, rfl, by repeat (first | exact HB.out | apply below_alloc | apply below_drew)⟩
set_option maxRecDepth 100000 in
set_option maxHeartbeats 2000000 in
theorem parseCloseBrace_calls (w0 w : World) (a : Addr) (b : Nat) (s : ByteArray) (q : PSt) (mv : Value) (h : PX w0 w a b s q mv .nilIface) (hnb : ∀ y, pkT s q.x ≠ (.bad, y)) :
    Calls Tryz.prog 88 #[.pointer (some ⟨b, 0, none⟩), .pointer (some ⟨b, 2, none⟩)] w fun e w' => StP w0 w' a b s (stepP s .cb q) e := by
  obtain ⟨c, hc⟩ : ∃ c, pkT s q.x = c := ⟨_, rfl⟩
  obtain ⟨c, y⟩ := c
  have HP := Aside0.mk h
  have HPA := Aside0.mk (h.below (below_alloc (Below.refl _ _) (.cells #[.int .i64 2] 143)))
  have HY := Aside0.mk (good_of h.gd hc)
  have hob := h.chob
  have hlt := h.lex.lt
  have HX := Aside0.mk (expect_calls_p (w.alloc (.cells #[.int .i64 2] 143)) b _ [mv, .bool q.hob] [] s q.x (.pointer (some ⟨b, 0, none⟩)) [2] w.heap.size 1 a HPA.out.lx HPA.out.pe h.gd ⟨_, heap_alloc_new w _⟩ (by omega) (by simp) c y hc (tok_ne0 h.gd hc))
  have hu := Tryz.underlying169
  cases c with
  | bad => exact absurd hc (hnb y)
  | eof =>
    cases hq : q.hob with
    | true =>
      have hS : stepP s .cb q = none := by unfold stepP; simp only [hc, hq, if_true]
      rw [hS]
      rw [hq] at hob
      clear hc hS h hnb
      go_enter Tryz.func88, Tryz.ntmps88
      go_wp2_with fail
      refine HX.out.mono ?_
      rintro e w1 ⟨rfl, hO⟩
      clear HX
      have HQ := HPA.out.out0 hO
      have HB := Aside0.mk HQ.bel
      obtain ⟨et, ep, hE⟩ := (HQ.pe.alt (below_alloc (Below.refl _ _) (.cells #[.int .i64 0, .string ⟨#[]⟩, .int .i64 0, .int .i64 0, .int .i64 0, .int .i64 0] 169))).at_.e3
      clear hO HQ
      unfold tok0
      go_wp2
      try go_region
      all_goals
        try go_wp2
        try go_ret2
        exact ⟨_, _, rfl, by repeat (first | exact HB.out | apply below_alloc | apply below_drew)⟩
    | false =>
      have hS : stepP s .cb q = some (some .eo, q) := by unfold stepP; simp [hc, hq]
      rw [hS]
      rw [hq] at hob
      clear hc hS h hnb
      go_enter Tryz.func88, Tryz.ntmps88
      go_wp2_with fail
      refine HX.out.mono ?_
      rintro e w1 ⟨rfl, hO⟩
      clear HX
      have HQ := Aside0.mk ((HPA.out.out0 hO).below (below_alloc (Below.refl _ _) (.cells #[.int .i64 0, .string ⟨#[]⟩, .int .i64 0, .int .i64 0, .int .i64 0, .int .i64 0] 169)))
      clear hO
      unfold tok0
      go_wp2
      go_ret2
      exact ⟨rfl, _, HQ.out⟩
  | tok k =>
    by_cases hk : k = 2
    · subst hk
      have hk2 : inK [2] 2 = true := rfl
      cases hq : q.hob with
      | true =>
        have hS : stepP s .cb q = some (some .eo, { q with x := emitS y }) := by unfold stepP; simp [hc, hq]
        rw [hS]
        rw [hq] at hob
        clear hc hS h hnb
        go_enter Tryz.func88, Tryz.ntmps88
        go_wp2_with fail
        refine HX.out.mono ?_
        rintro e w1 hP
        unfold ExP at hP
        simp only at hP
        rw [if_pos hk2] at hP
        obtain ⟨rfl, hO⟩ := hP
        clear HX
        have HQ := Aside0.mk ((HPA.out.outs hO HY.out.emit).below (below_alloc (Below.refl _ _) (.cells #[.int .i64 2, .string (s.extract y.st.toNat y.p.toNat), .int .i64 y.st, .int .i64 y.p, .int .i64 y.cl, .int .i64 y.cs] 169)))
        clear hO
        unfold tokV
        go_wp2
        go_ret2
        exact ⟨rfl, _, HQ.out⟩
      | false =>
        have hS : stepP s .cb q = none := by unfold stepP; simp [hc, hq]
        rw [hS]
        rw [hq] at hob
        clear hc hS h hnb
        go_enter Tryz.func88, Tryz.ntmps88
        go_wp2_with fail
        refine HX.out.mono ?_
        rintro e w1 hP
        unfold ExP at hP
        simp only at hP
        rw [if_pos hk2] at hP
        obtain ⟨rfl, hO⟩ := hP
        clear HX
        have HQ := HPA.out.outs hO HY.out.emit
        have HB := Aside0.mk HQ.bel
        obtain ⟨et, ep, hE⟩ := (HQ.pe.alt (below_alloc (Below.refl _ _) (.cells #[.int .i64 2, .string (s.extract y.st.toNat y.p.toNat), .int .i64 y.st, .int .i64 y.p, .int .i64 y.cl, .int .i64 y.cs] 169))).at_.e2
        clear hO HQ
        unfold tokV
        go_wp2
        try go_region
        all_goals
          try go_wp2
          try go_ret2
          exact ⟨_, _, rfl, by repeat (first | exact HB.out | apply below_alloc | apply below_drew)⟩
    · have hk2 : ¬ inK [2] k = true := by unfold inK; simp [hk]
      cases hq : q.hob with
      | true =>
        have hS : stepP s .cb q = none := by unfold stepP; simp [hc, hq, hk]
        rw [hS]
        rw [hq] at hob
        clear hc hS h hnb
        go_enter Tryz.func88, Tryz.ntmps88
        go_wp2_with fail
        refine HX.out.mono ?_
        rintro e w1 hP
        unfold ExP at hP
        simp only at hP
        rw [if_neg hk2] at hP
        obtain ⟨g, _, _, rfl, hO⟩ := hP
        clear HX
        have HQ := HPA.out.out0 hO
        have HB := Aside0.mk HQ.bel
        obtain ⟨et, ep, hE⟩ := (HQ.pe.alt (below_alloc (Below.refl _ _) (.cells #[.int .i64 k, .string (s.extract y.st.toNat y.p.toNat), .int .i64 y.st, .int .i64 y.p, .int .i64 y.cl, .int .i64 y.cs] 169))).at_.e3
        clear hO HQ
        unfold tokV
        go_wp2
        try go_region
        all_goals
          try go_wp2
          try go_ret2
          exact ⟨_, _, rfl, by repeat (first | exact HB.out | apply below_alloc | apply below_drew)⟩
      | false =>
        have hS : stepP s .cb q = some (some .eo, q) := by unfold stepP; simp [hc, hq, hk]
        rw [hS]
        rw [hq] at hob
        clear hc hS h hnb
        go_enter Tryz.func88, Tryz.ntmps88
        go_wp2_with fail
        refine HX.out.mono ?_
        rintro e w1 hP
        unfold ExP at hP
        simp only at hP
        rw [if_neg hk2] at hP
        obtain ⟨g, _, _, rfl, hO⟩ := hP
        clear HX
        have HQ := Aside0.mk ((HPA.out.out0 hO).below (below_alloc (Below.refl _ _) (.cells #[.int .i64 k, .string (s.extract y.st.toNat y.p.toNat), .int .i64 y.st, .int .i64 y.p, .int .i64 y.cl, .int .i64 y.cs] 169)))
        clear hO
        unfold tokV
        go_wp2
        go_ret2
        exact ⟨rfl, _, HQ.out⟩
end Go.Proofs.YtnnhehlieakedaaGreatDoor.Q
namespace Go.Proofs.YtnnhehlieakedaaGreatDoor.Q
open Go.RowKit Go.Extern.Stop Go.Stop Go.Extern Go.Proofs.YtnnhehlieakedaaGreatDoorW.PrintWords Go.Proofs.YtnnhehlieakedaaGreatDoorW.PrintLast Go.Proofs.YtnnhehlieakedaaGreatDoorW.PrintMore
theorem isTypeOf (v : Value) (w : World) : (Extern.ReflectliteType.typeOf #[.iface 116 v]).run Tryz.prog w = .ok (.iface 204 (.agg #[.pointer (some ⟨22, 116, none⟩)])) w := by kernel_rfl
theorem isComparable (w : World) : (callFunc 187 #[.agg #[.pointer (some ⟨22, 116, none⟩)]]).run Tryz.prog w = .ok (.value (.bool true)) w := by
  rw [@run_callFunc_extern Tryz.prog 187 _ (Extern.ReflectliteType.method fun t => do Extern.Rtype.noPackHeld "Comparable" t; pure (.bool (← typeInfo t).comparable)) Tryz.func187 (by kernel_rfl) (by kernel_rfl) (by kernel_rfl) (by kernel_rfl)]
  have h : ((Extern.ReflectliteType.method fun t => do Extern.Rtype.noPackHeld "Comparable" t; pure (.bool (← typeInfo t).comparable)) #[.agg #[.pointer (some ⟨22, 116, none⟩)]]).run Tryz.prog w = .ok (.bool true) w := by kernel_rfl
  rw [h]
  rfl
theorem isMethodComparable (v : Value) (w : World) : (Go.method 371 204 v "Comparable").run Tryz.prog w = .ok (187, v) w := by kernel_rfl
theorem isComp : (Tryz.prog.info? 116).map (·.comparable) = some true := by kernel_rfl
theorem isSize : (Tryz.prog.info? 118).map (·.size) = some 1 := by kernel_rfl
theorem noIsE (v : Value) (xT : TypeId) (w : World) : (Instr.typeAssert (.iface 116 v) xT 206 true).run Tryz.prog w = .ok (.tuple #[.nilIface, .bool false]) w := run_typeAssert_lacksB Tryz.underlying206 (by kernel_rfl) (by kernel_rfl) v xT w
theorem noUnwrapE (v : Value) (xT : TypeId) (w : World) : (Instr.typeAssert (.iface 116 v) xT 209 true).run Tryz.prog w = .ok (.tuple #[.nilIface, .bool false]) w := run_typeAssert_lacksB Tryz.underlying209 (by kernel_rfl) (by kernel_rfl) v xT w
theorem noUnwrapsE (v : Value) (xT : TypeId) (w : World) : (Instr.typeAssert (.iface 116 v) xT 211 true).run Tryz.prog w = .ok (.tuple #[.nilIface, .bool false]) w := run_typeAssert_lacksB Tryz.underlying211 (by kernel_rfl) (by kernel_rfl) v xT w
/-- An error that errors.is looks into in vain: another dynamic type, no Is, no Unwrap. -/
def Plain (t : Nat) : Prop := t ≠ 116 ∧ ∀ (v : Value) (xT : TypeId) (w : World), (Instr.typeAssert (.iface t v) xT 206 true).run Tryz.prog w = .ok (.tuple #[.nilIface, .bool false]) w ∧ (Instr.typeAssert (.iface t v) xT 209 true).run Tryz.prog w = .ok (.tuple #[.nilIface, .bool false]) w ∧ (Instr.typeAssert (.iface t v) xT 211 true).run Tryz.prog w = .ok (.tuple #[.nilIface, .bool false]) w
theorem plain_expected : Plain 229 := ⟨by decide, fun v xT w => ⟨run_typeAssert_lacksB Tryz.underlying206 (by kernel_rfl) (by kernel_rfl) v xT w, run_typeAssert_lacksB Tryz.underlying209 (by kernel_rfl) (by kernel_rfl) v xT w, run_typeAssert_lacksB Tryz.underlying211 (by kernel_rfl) (by kernel_rfl) v xT w⟩⟩
theorem plain_unterminated : Plain 231 := ⟨by decide, fun v xT w => ⟨run_typeAssert_lacksB Tryz.underlying206 (by kernel_rfl) (by kernel_rfl) v xT w, run_typeAssert_lacksB Tryz.underlying209 (by kernel_rfl) (by kernel_rfl) v xT w, run_typeAssert_lacksB Tryz.underlying211 (by kernel_rfl) (by kernel_rfl) v xT w⟩⟩
theorem plain_invalid : Plain 202 := ⟨by decide, fun v xT w => ⟨run_typeAssert_lacksB Tryz.underlying206 (by kernel_rfl) (by kernel_rfl) v xT w, run_typeAssert_lacksB Tryz.underlying209 (by kernel_rfl) (by kernel_rfl) v xT w, run_typeAssert_lacksB Tryz.underlying211 (by kernel_rfl) (by kernel_rfl) v xT w⟩⟩
set_option maxRecDepth 100000 in
set_option maxHeartbeats 1000000 in
theorem is_same (a : Addr) (w : World) : Calls Tryz.prog 85 #[.iface 116 (.pointer (some a)), .iface 116 (.pointer (some a))] w fun e w' => e = .returned (.bool true) ∧ w' = w := by
  obtain ⟨i, hi, hcmp⟩ := Option.map_eq_some_iff.1 isComp
  obtain ⟨j, hj, hjs⟩ := Option.map_eq_some_iff.1 isSize
  have h8 := @run_callFunc_extern Tryz.prog 110 _ Extern.ReflectliteType.typeOf Tryz.func110 (by kernel_rfl) (by kernel_rfl) (by kernel_rfl) (by kernel_rfl)
  have tT := isTypeOf
  have cT := isComparable
  have mR := isMethodComparable
  have heq := run_eql_iface_ptr_same (P := Tryz.prog) w a Tryz.underlying50 Tryz.underlying116 hi hcmp hj
  go_enter Tryz.func85, Tryz.ntmps85
  go_wp2
  refine wp_loop_rounds 1 ?_
  rw [rounds_succ]
  go_wp2
  go_ret
  exact ⟨rfl, rfl⟩
set_option maxRecDepth 100000 in
set_option maxHeartbeats 1000000 in
theorem is_other (a b : Addr) (ca cb : Array Value) (ta tb : TypeId) (w : World) (hne : a ≠ b) (ha : w.heap[a.block]? = some (.cells ca ta (0, 0))) (hb : w.heap[b.block]? = some (.cells cb tb (0, 0))) :
    Calls Tryz.prog 85 #[.iface 116 (.pointer (some a)), .iface 116 (.pointer (some b))] w fun e w' => e = .returned (.bool false) ∧ w' = w := by
  obtain ⟨i, hi, hcmp⟩ := Option.map_eq_some_iff.1 isComp
  obtain ⟨j, hj, hjs⟩ := Option.map_eq_some_iff.1 isSize
  have h8 := @run_callFunc_extern Tryz.prog 110 _ Extern.ReflectliteType.typeOf Tryz.func110 (by kernel_rfl) (by kernel_rfl) (by kernel_rfl) (by kernel_rfl)
  have tT := isTypeOf
  have cT := isComparable
  have mR := isMethodComparable
  have nE := noIsE
  have uE := noUnwrapE
  have vE := noUnwrapsE
  have heq := run_eql_iface_ptr_other (P := Tryz.prog) w Tryz.underlying50 Tryz.underlying116 hi hcmp hj (by rw [hjs]; decide) hne ha hb
  go_enter Tryz.func85, Tryz.ntmps85
  go_wp2
  refine wp_loop_rounds 1 ?_
  rw [rounds_succ]
  go_wp2
  go_ret
  exact ⟨rfl, rfl⟩
set_option maxRecDepth 100000 in
set_option maxHeartbeats 1000000 in
theorem is_plain (t : Nat) (v : Value) (b : Addr) (w : World) (h : Plain t) :
    Calls Tryz.prog 85 #[.iface t v, .iface 116 (.pointer (some b))] w fun e w' => e = .returned (.bool false) ∧ w' = w := by
  have h8 := @run_callFunc_extern Tryz.prog 110 _ Extern.ReflectliteType.typeOf Tryz.func110 (by kernel_rfl) (by kernel_rfl) (by kernel_rfl) (by kernel_rfl)
  have tT := isTypeOf
  have cT := isComparable
  have mR := isMethodComparable
  have nE := fun (xT : TypeId) (w : World) => (h.2 v xT w).1
  have uE := fun (xT : TypeId) (w : World) => (h.2 v xT w).2.1
  have vE := fun (xT : TypeId) (w : World) => (h.2 v xT w).2.2
  have hty := run_eql_iface_types (P := Tryz.prog) t 116 v (.pointer (some b)) Tryz.underlying50 h.1 w
  clear h
  go_enter Tryz.func85, Tryz.ntmps85
  go_wp2
  refine wp_loop_rounds 1 ?_
  rw [rounds_succ]
  go_wp2
  go_ret
  exact ⟨rfl, rfl⟩
end Go.Proofs.YtnnhehlieakedaaGreatDoor.Q
namespace Go.Proofs.YtnnhehlieakedaaGreatDoor.Q
open Go.RowKit Go.Lib Go.Proofs.YtnnhehlieakedaaGreatDoorW.PrintWords Go.Proofs.YtnnhehlieakedaaGreatDoorW.PrintLast Go.Proofs.YtnnhehlieakedaaGreatDoorW.PrintMore
attribute [local go_sem] max2_int min2_int max_two min_two max_three min_three max_four min_four
theorem ErrV.plain {ev : Value} (h : ErrV ev) : ∃ t v, ev = .iface t v ∧ Plain t := by
  obtain ⟨t, p, e, h⟩ := h
  refine ⟨t, p, e, ?_⟩
  rcases h with rfl | rfl | rfl
  · exact plain_expected
  · exact plain_unterminated
  · exact plain_invalid
/-- A new error is not errEOF. -/
theorem isNew_calls {w0 w1 w : World} {a : Addr} {g : Nat} (he : ErrsAt w0 a) (hb : Below w0.heap.size w0 w) (hg : w0.heap.size ≤ g) (hr : ∃ c t, w.heap[g]? = some (.cells c t (0, 0))) :
    Calls Tryz.prog 85 #[.iface 116 (.pointer (some ⟨g, 0, none⟩)), .iface 116 (.pointer (some a))] w fun e w' => e = .returned (.bool false) ∧ w' = w := by
  obtain ⟨c, t, h1⟩ := hr
  obtain ⟨c2, t2, h2⟩ := he.blk
  have hlt := (Array.getElem?_eq_some_iff.1 h2).1
  exact is_other ⟨g, 0, none⟩ a c c2 t t2 w (fun e => by rw [← e] at hlt; simp at hlt; omega) h1 ((hb.block _ hlt).trans h2)
set_option maxRecDepth 100000 in
set_option maxHeartbeats 2000000 in
theorem parseEndOfMatcher_calls (w0 w : World) (a : Addr) (b : Nat) (s : ByteArray) (q : PSt) (mv : Value) (h : PX w0 w a b s q mv .nilIface) :
    Calls Tryz.prog 117 #[.pointer (some ⟨b, 0, none⟩), .pointer (some ⟨b, 2, none⟩)] w fun e w' => StP w0 w' a b s (stepP s .en q) e := by
  obtain ⟨c, hc⟩ : ∃ c, pkT s q.x = c := ⟨_, rfl⟩
  obtain ⟨c, y⟩ := c
  have HPA := Aside0.mk (h.below (below_alloc (Below.refl _ _) (.cells #[.int .i64 3, .int .i64 2] 143)))
  have hlt := h.lex.lt
  have hsz := h.bel.size
  have HX := Aside0.mk (expectPeek_calls (w.alloc (.cells #[.int .i64 3, .int .i64 2] 143)) b _ [mv, .bool q.hob] [] s q.x (.pointer (some ⟨b, 0, none⟩)) [3, 2] w.heap.size 2 a HPA.out.lx HPA.out.pe h.gd ⟨_, heap_alloc_new w _⟩ (by omega) (by simp) c y hc (tok_ne0 h.gd hc))
  have hu := Tryz.underlying169
  have hmf : ∀ (fn : Fn) (first cap : Array Value) (w : World), (Instr.makeFunc fn first cap).run Tryz.prog w = .ok (.func fn first cap) w := fun _ _ _ _ => rfl
  cases c with
  | eof =>
    have hS : stepP s .en q = some (some .cb, q) := by unfold stepP; simp only [hc]
    rw [hS]
    clear hc hS h
    go_enter Tryz.func117, Tryz.ntmps117
    go_wp2_with fail
    refine HX.out.mono ?_
    rintro e w1 ⟨rfl, hO⟩
    clear HX
    have HQ := Aside0.mk ((HPA.out.out0 hO).below (below_alloc (Below.refl _ _) (.cells #[.int .i64 0, .string ⟨#[]⟩, .int .i64 0, .int .i64 0, .int .i64 0, .int .i64 0] 169)))
    have hE := HQ.out.pe.at_.eof
    clear hO
    unfold tok0
    go_wp2_with fail
    refine (is_same a _).mono ?_
    rintro e w2 ⟨rfl, rfl⟩
    go_wp2
    go_ret2
    exact ⟨rfl, _, HQ.out⟩
  | bad =>
    have hS : stepP s .en q = none := by unfold stepP; simp only [hc]
    rw [hS]
    clear hc hS h
    go_enter Tryz.func117, Tryz.ntmps117
    go_wp2_with fail
    refine HX.out.mono ?_
    rintro e w1 ⟨ev, hev, rfl, hO⟩
    obtain ⟨ti, pv, rfl, hpl⟩ := hev.plain
    have HI := Aside0.mk hpl
    clear HX hev hpl
    have HQ := (HPA.out.out0 hO).below (below_alloc (Below.refl _ _) (.cells #[.int .i64 0, .string ⟨#[]⟩, .int .i64 0, .int .i64 0, .int .i64 0, .int .i64 0] 169))
    have HB := Aside0.mk HQ.bel
    have hE := HQ.pe.at_.eof
    obtain ⟨et, ep, hE8⟩ := HQ.pe.at_.e8
    clear hO HQ
    unfold tok0
    go_wp2_with fail
    refine (is_plain ti pv a _ HI.out).mono ?_
    rintro e w2 ⟨rfl, rfl⟩
    go_wp2
    try go_region
    all_goals
      try go_wp2
      try go_ret2
      exact ⟨_, _, rfl, by repeat (first | exact HB.out | apply below_alloc | apply below_drew)⟩
  | tok k =>
    by_cases hk3 : k = 3
    · subst hk3
      have hS : stepP s .en q = some (some .co, q) := by unfold stepP; simp only [hc, if_true]
      rw [hS]
      clear hc hS h
      go_enter Tryz.func117, Tryz.ntmps117
      go_wp2_with fail
      refine HX.out.mono ?_
      rintro e w1 hP
      unfold ExP at hP
      simp only at hP
      rw [if_pos (show inK [3, 2] 3 = true from rfl)] at hP
      obtain ⟨rfl, hO⟩ := hP
      clear HX
      have HQ := Aside0.mk ((HPA.out.out0 hO).below (below_alloc (Below.refl _ _) (.cells #[.int .i64 3, .string (s.extract y.st.toNat y.p.toNat), .int .i64 y.st, .int .i64 y.p, .int .i64 y.cl, .int .i64 y.cs] 169)))
      clear hO
      unfold tokV
      go_wp2
      go_ret2
      exact ⟨rfl, _, HQ.out⟩
    · by_cases hk2 : k = 2
      · subst hk2
        have hS : stepP s .en q = some (some .cb, q) := by unfold stepP; simp [hc]
        rw [hS]
        clear hc hS h
        go_enter Tryz.func117, Tryz.ntmps117
        go_wp2_with fail
        refine HX.out.mono ?_
        rintro e w1 hP
        unfold ExP at hP
        simp only at hP
        rw [if_pos (show inK [3, 2] 2 = true from rfl)] at hP
        obtain ⟨rfl, hO⟩ := hP
        clear HX
        have HQ := Aside0.mk ((HPA.out.out0 hO).below (below_alloc (Below.refl _ _) (.cells #[.int .i64 2, .string (s.extract y.st.toNat y.p.toNat), .int .i64 y.st, .int .i64 y.p, .int .i64 y.cl, .int .i64 y.cs] 169)))
        clear hO
        unfold tokV
        go_wp2
        go_ret2
        exact ⟨rfl, _, HQ.out⟩
      · have hS : stepP s .en q = none := by unfold stepP; simp [hc, hk2, hk3]
        have hin : ¬ inK [3, 2] k = true := by unfold inK; simp [hk2, hk3]
        have hlow := h.bel.size
        rw [hS]
        clear hc hS h
        go_enter Tryz.func117, Tryz.ntmps117
        go_wp2_with fail
        refine HX.out.mono ?_
        rintro e w1 hP
        unfold ExP at hP
        simp only at hP
        rw [if_neg hin] at hP
        obtain ⟨g, hg, ⟨cg, tg, hgb⟩, rfl, hO⟩ := hP
        clear HX hin
        have HQ := (HPA.out.out0 hO).below (below_alloc (Below.refl _ _) (.cells #[.int .i64 k, .string (s.extract y.st.toNat y.p.toNat), .int .i64 y.st, .int .i64 y.p, .int .i64 y.cl, .int .i64 y.cs] 169))
        have HB := Aside0.mk HQ.bel
        have hE := HQ.pe.at_.eof
        have HI := Aside0.mk (isNew_calls (w1 := w) HQ.er HQ.bel (show w0.heap.size ≤ g by simp at hg; omega) ⟨cg, tg, blk_below hgb (below_alloc (Below.refl _ _) (.cells #[.int .i64 k, .string (s.extract y.st.toNat y.p.toNat), .int .i64 y.st, .int .i64 y.p, .int .i64 y.cl, .int .i64 y.cs] 169))⟩)
        obtain ⟨et, ep, hE8⟩ := HQ.pe.at_.e8
        clear hO HQ hgb
        unfold tokV
        go_wp2_with fail
        refine HI.out.mono ?_
        rintro e w2 ⟨rfl, rfl⟩
        go_wp2
        try go_region
        all_goals
          try go_wp2
          try go_ret2
          exact ⟨_, _, rfl, by repeat (first | exact HB.out | apply below_alloc | apply below_drew)⟩
end Go.Proofs.YtnnhehlieakedaaGreatDoor.Q
namespace Go.Proofs.YtnnhehlieakedaaGreatDoor.Q
open Go.RowKit Go.Lib Go.Proofs.YtnnhehlieakedaaGreatDoorW.PrintWords Go.Proofs.YtnnhehlieakedaaGreatDoorW.PrintLast Go.Proofs.YtnnhehlieakedaaGreatDoorW.PrintMore
attribute [local go_sem] max2_int min2_int max_two min_two max_three min_three max_four min_four
set_option maxRecDepth 100000 in
set_option maxHeartbeats 4000000 in
theorem parseComma_calls (w0 w : World) (a : Addr) (b : Nat) (s : ByteArray) (q : PSt) (mv : Value) (h : PX w0 w a b s q mv .nilIface) :
    Calls Tryz.prog 146 #[.pointer (some ⟨b, 0, none⟩), .pointer (some ⟨b, 2, none⟩)] w fun e w' => StP w0 w' a b s (stepP s .co q) e := by
  obtain ⟨c, hc⟩ : ∃ c, pkT s q.x = c := ⟨_, rfl⟩
  obtain ⟨c, y⟩ := c
  have HPA := Aside0.mk (h.below (below_alloc (Below.refl _ _) (.cells #[.int .i64 3] 143)))
  have HY := Aside0.mk (good_of h.gd hc)
  have hlt := h.lex.lt
  have hsz := h.bel.size
  have HX := Aside0.mk (expect_calls_p (w.alloc (.cells #[.int .i64 3] 143)) b _ [mv, .bool q.hob] [] s q.x (.pointer (some ⟨b, 0, none⟩)) [3] w.heap.size 1 a HPA.out.lx HPA.out.pe h.gd ⟨_, heap_alloc_new w _⟩ (by omega) (by simp) c y hc (tok_ne0 h.gd hc))
  have hu := Tryz.underlying169
  have hmf : ∀ (fn : Fn) (first cap : Array Value) (w : World), (Instr.makeFunc fn first cap).run Tryz.prog w = .ok (.func fn first cap) w := fun _ _ _ _ => rfl
  cases c with
  | eof =>
    have hS : stepP s .co q = none := by unfold stepP; simp only [hc]
    rw [hS]
    clear hc hS h
    go_enter Tryz.func146, Tryz.ntmps146
    go_wp2_with fail
    refine HX.out.mono ?_
    rintro e w1 ⟨rfl, hO⟩
    clear HX
    have HQ := (HPA.out.out0 hO).below (below_alloc (Below.refl _ _) (.cells #[.int .i64 0, .string ⟨#[]⟩, .int .i64 0, .int .i64 0, .int .i64 0, .int .i64 0] 169))
    have HB := Aside0.mk HQ.bel
    obtain ⟨et, ep, hE⟩ := HQ.pe.at_.e7
    clear hO HQ
    unfold tok0
    go_wp2
    try go_region
    all_goals
      try go_wp2
      try go_ret2
      exact ⟨_, _, rfl, by repeat (first | exact HB.out | apply below_alloc | apply below_drew)⟩
  | bad =>
    have hS : stepP s .co q = none := by unfold stepP; simp only [hc]
    rw [hS]
    clear hc hS h
    go_enter Tryz.func146, Tryz.ntmps146
    go_wp2_with fail
    refine HX.out.mono ?_
    rintro e w1 ⟨ev, ⟨ti, pv, rfl, _⟩, rfl, hO⟩
    clear HX
    have HQ := (HPA.out.out0 hO).below (below_alloc (Below.refl _ _) (.cells #[.int .i64 0, .string ⟨#[]⟩, .int .i64 0, .int .i64 0, .int .i64 0, .int .i64 0] 169))
    have HB := Aside0.mk HQ.bel
    obtain ⟨et, ep, hE⟩ := HQ.pe.at_.e7
    clear hO HQ
    unfold tok0
    go_wp2
    try go_region
    all_goals
      try go_wp2
      try go_ret2
      exact ⟨_, _, rfl, by repeat (first | exact HB.out | apply below_alloc | apply below_drew)⟩
  | tok k =>
    by_cases hk : k = 3
    · subst hk
      obtain ⟨c2, hc2⟩ : ∃ c2, pkT s (emitS y) = c2 := ⟨_, rfl⟩
      obtain ⟨c2, z⟩ := c2
      have HC2 := Aside0.mk hc2
      cases c2 with
      | eof =>
        have hS : stepP s .co q = some (some .cb, { q with x := emitS y }) := by unfold stepP; simp [hc, hc2]
        rw [hS]
        clear hc hS h hc2
        go_enter Tryz.func146, Tryz.ntmps146
        go_wp2_with fail
        refine HX.out.mono ?_
        rintro e w1 hP
        unfold ExP at hP
        simp only at hP
        rw [if_pos (show inK [3] 3 = true from rfl)] at hP
        obtain ⟨rfl, hO⟩ := hP
        clear HX
        have HQ1 := (HPA.out.outs hO HY.out.emit).below (below_alloc (Below.refl _ _) (.cells #[.int .i64 3, .string (s.extract y.st.toNat y.p.toNat), .int .i64 y.st, .int .i64 y.p, .int .i64 y.cl, .int .i64 y.cs] 169))
        have HQA := Aside0.mk (HQ1.below (below_alloc (Below.refl _ _) (.cells #[.int .i64 2, .int .i64 9, .int .i64 8] 143)))
        have hb1 : b < (w1.alloc (.cells #[.int .i64 3, .string (s.extract y.st.toNat y.p.toNat), .int .i64 y.st, .int .i64 y.p, .int .i64 y.cl, .int .i64 y.cs] 169)).heap.size := HQ1.lex.lt
        have hs1 : w.heap.size ≤ (w1.alloc (.cells #[.int .i64 3, .string (s.extract y.st.toNat y.p.toNat), .int .i64 y.st, .int .i64 y.p, .int .i64 y.cl, .int .i64 y.cs] 169)).heap.size := by have := hO.grown.size; simp at this; simp; omega
        have he1 : (w1.alloc (.cells #[.int .i64 3, .string (s.extract y.st.toNat y.p.toNat), .int .i64 y.st, .int .i64 y.p, .int .i64 y.cl, .int .i64 y.cs] 169)).heap.size = w1.heap.size + 1 := by simp
        have HZ := Aside0.mk (expectPeek_calls ((w1.alloc (.cells #[.int .i64 3, .string (s.extract y.st.toNat y.p.toNat), .int .i64 y.st, .int .i64 y.p, .int .i64 y.cl, .int .i64 y.cs] 169)).alloc (.cells #[.int .i64 2, .int .i64 9, .int .i64 8] 143)) b _ [mv, .bool q.hob] [] s (emitS y) (.pointer (some ⟨b, 0, none⟩)) [2, 9, 8] (w1.heap.size + 1) 3 a HQA.out.lx HQA.out.pe HY.out.emit ⟨_, he1 ▸ heap_alloc_new (w1.alloc (.cells #[.int .i64 3, .string (s.extract y.st.toNat y.p.toNat), .int .i64 y.st, .int .i64 y.p, .int .i64 y.cl, .int .i64 y.cs] 169)) (.cells #[.int .i64 2, .int .i64 9, .int .i64 8] 143)⟩ (by omega) (by simp) _ z HC2.out (tok_ne0 HY.out.emit HC2.out))
        clear hO HQ1 hb1 he1
        unfold tokV
        go_wp2_with fail
        refine HZ.out.mono ?_
        rintro e w2 ⟨rfl, hO⟩
        have HQ := Aside0.mk ((HQA.out.out0 hO).below (below_alloc (Below.refl _ _) (.cells #[.int .i64 0, .string ⟨#[]⟩, .int .i64 0, .int .i64 0, .int .i64 0, .int .i64 0] 169)))
        have hE := HQ.out.pe.at_.eof
        clear hO HZ
        unfold tok0
        go_wp2_with fail
        refine (is_same a _).mono ?_
        rintro e w3 ⟨rfl, rfl⟩
        go_wp2
        go_ret2
        exact ⟨rfl, _, HQ.out⟩
      | bad =>
        have hS : stepP s .co q = none := by unfold stepP; simp [hc, hc2]
        rw [hS]
        clear hc hS h hc2
        go_enter Tryz.func146, Tryz.ntmps146
        go_wp2_with fail
        refine HX.out.mono ?_
        rintro e w1 hP
        unfold ExP at hP
        simp only at hP
        rw [if_pos (show inK [3] 3 = true from rfl)] at hP
        obtain ⟨rfl, hO⟩ := hP
        clear HX
        have HQ1 := (HPA.out.outs hO HY.out.emit).below (below_alloc (Below.refl _ _) (.cells #[.int .i64 3, .string (s.extract y.st.toNat y.p.toNat), .int .i64 y.st, .int .i64 y.p, .int .i64 y.cl, .int .i64 y.cs] 169))
        have HQA := Aside0.mk (HQ1.below (below_alloc (Below.refl _ _) (.cells #[.int .i64 2, .int .i64 9, .int .i64 8] 143)))
        have hb1 : b < (w1.alloc (.cells #[.int .i64 3, .string (s.extract y.st.toNat y.p.toNat), .int .i64 y.st, .int .i64 y.p, .int .i64 y.cl, .int .i64 y.cs] 169)).heap.size := HQ1.lex.lt
        have hs1 : w.heap.size ≤ (w1.alloc (.cells #[.int .i64 3, .string (s.extract y.st.toNat y.p.toNat), .int .i64 y.st, .int .i64 y.p, .int .i64 y.cl, .int .i64 y.cs] 169)).heap.size := by have := hO.grown.size; simp at this; simp; omega
        have he1 : (w1.alloc (.cells #[.int .i64 3, .string (s.extract y.st.toNat y.p.toNat), .int .i64 y.st, .int .i64 y.p, .int .i64 y.cl, .int .i64 y.cs] 169)).heap.size = w1.heap.size + 1 := by simp
        have HZ := Aside0.mk (expectPeek_calls ((w1.alloc (.cells #[.int .i64 3, .string (s.extract y.st.toNat y.p.toNat), .int .i64 y.st, .int .i64 y.p, .int .i64 y.cl, .int .i64 y.cs] 169)).alloc (.cells #[.int .i64 2, .int .i64 9, .int .i64 8] 143)) b _ [mv, .bool q.hob] [] s (emitS y) (.pointer (some ⟨b, 0, none⟩)) [2, 9, 8] (w1.heap.size + 1) 3 a HQA.out.lx HQA.out.pe HY.out.emit ⟨_, he1 ▸ heap_alloc_new (w1.alloc (.cells #[.int .i64 3, .string (s.extract y.st.toNat y.p.toNat), .int .i64 y.st, .int .i64 y.p, .int .i64 y.cl, .int .i64 y.cs] 169)) (.cells #[.int .i64 2, .int .i64 9, .int .i64 8] 143)⟩ (by omega) (by simp) _ z HC2.out (tok_ne0 HY.out.emit HC2.out))
        clear hO HQ1 hb1 he1
        unfold tokV
        go_wp2_with fail
        refine HZ.out.mono ?_
        rintro e w2 ⟨ev, hev, rfl, hO⟩
        obtain ⟨ti, pv, rfl, hpl⟩ := hev.plain
        have HI := Aside0.mk hpl
        have HQ := (HQA.out.out0 hO).below (below_alloc (Below.refl _ _) (.cells #[.int .i64 0, .string ⟨#[]⟩, .int .i64 0, .int .i64 0, .int .i64 0, .int .i64 0] 169))
        have HB := Aside0.mk HQ.bel
        have hE := HQ.pe.at_.eof
        obtain ⟨et, ep, hE9⟩ := HQ.pe.at_.e9
        clear hO HZ HQ hev hpl
        unfold tok0
        go_wp2_with fail
        refine (is_plain ti pv a _ HI.out).mono ?_
        rintro e w3 ⟨rfl, rfl⟩
        go_wp2
        try go_region
        all_goals
          try go_wp2
          try go_ret2
          exact ⟨_, _, rfl, by repeat (first | exact HB.out | apply below_alloc | apply below_drew)⟩
      | tok j =>
        by_cases hj2 : j = 2
        · subst hj2
          have hS : stepP s .co q = some (some .cb, { q with x := emitS y }) := by unfold stepP; simp [hc, hc2]
          rw [hS]
          clear hc hS h hc2
          go_enter Tryz.func146, Tryz.ntmps146
          go_wp2_with fail
          refine HX.out.mono ?_
          rintro e w1 hP
          unfold ExP at hP
          simp only at hP
          rw [if_pos (show inK [3] 3 = true from rfl)] at hP
          obtain ⟨rfl, hO⟩ := hP
          clear HX
          have HQ1 := (HPA.out.outs hO HY.out.emit).below (below_alloc (Below.refl _ _) (.cells #[.int .i64 3, .string (s.extract y.st.toNat y.p.toNat), .int .i64 y.st, .int .i64 y.p, .int .i64 y.cl, .int .i64 y.cs] 169))
          have HQA := Aside0.mk (HQ1.below (below_alloc (Below.refl _ _) (.cells #[.int .i64 2, .int .i64 9, .int .i64 8] 143)))
          have hb1 : b < (w1.alloc (.cells #[.int .i64 3, .string (s.extract y.st.toNat y.p.toNat), .int .i64 y.st, .int .i64 y.p, .int .i64 y.cl, .int .i64 y.cs] 169)).heap.size := HQ1.lex.lt
          have hs1 : w.heap.size ≤ (w1.alloc (.cells #[.int .i64 3, .string (s.extract y.st.toNat y.p.toNat), .int .i64 y.st, .int .i64 y.p, .int .i64 y.cl, .int .i64 y.cs] 169)).heap.size := by have := hO.grown.size; simp at this; simp; omega
          have he1 : (w1.alloc (.cells #[.int .i64 3, .string (s.extract y.st.toNat y.p.toNat), .int .i64 y.st, .int .i64 y.p, .int .i64 y.cl, .int .i64 y.cs] 169)).heap.size = w1.heap.size + 1 := by simp
          have HZ := Aside0.mk (expectPeek_calls ((w1.alloc (.cells #[.int .i64 3, .string (s.extract y.st.toNat y.p.toNat), .int .i64 y.st, .int .i64 y.p, .int .i64 y.cl, .int .i64 y.cs] 169)).alloc (.cells #[.int .i64 2, .int .i64 9, .int .i64 8] 143)) b _ [mv, .bool q.hob] [] s (emitS y) (.pointer (some ⟨b, 0, none⟩)) [2, 9, 8] (w1.heap.size + 1) 3 a HQA.out.lx HQA.out.pe HY.out.emit ⟨_, he1 ▸ heap_alloc_new (w1.alloc (.cells #[.int .i64 3, .string (s.extract y.st.toNat y.p.toNat), .int .i64 y.st, .int .i64 y.p, .int .i64 y.cl, .int .i64 y.cs] 169)) (.cells #[.int .i64 2, .int .i64 9, .int .i64 8] 143)⟩ (by omega) (by simp) _ z HC2.out (tok_ne0 HY.out.emit HC2.out))
          clear hO HQ1 hb1 he1
          unfold tokV
          go_wp2_with fail
          refine HZ.out.mono ?_
          rintro e w2 hP
          unfold ExP at hP
          simp only at hP
          rw [if_pos (show inK [2, 9, 8] 2 = true from rfl)] at hP
          obtain ⟨rfl, hO⟩ := hP
          have HQ := Aside0.mk ((HQA.out.out0 hO).below (below_alloc (Below.refl _ _) (.cells #[.int .i64 2, .string (s.extract z.st.toNat z.p.toNat), .int .i64 z.st, .int .i64 z.p, .int .i64 z.cl, .int .i64 z.cs] 169)))
          clear hO HZ
          unfold tokV
          go_wp2
          go_ret2
          exact ⟨rfl, _, HQ.out⟩
        · by_cases hj : j = 8 ∨ j = 9
          · have hS : stepP s .co q = some (some .ma, { q with x := emitS y }) := by unfold stepP; simp [hc, hc2, hj2, hj]
            have hin : inK [2, 9, 8] j = true := by unfold inK; rcases hj with rfl | rfl <;> rfl
            have hne : (j == 2) = false := beq_eq_false_iff_ne.2 hj2
            rw [hS]
            clear hc hS h hc2
            go_enter Tryz.func146, Tryz.ntmps146
            go_wp2_with fail
            refine HX.out.mono ?_
            rintro e w1 hP
            unfold ExP at hP
            simp only at hP
            rw [if_pos (show inK [3] 3 = true from rfl)] at hP
            obtain ⟨rfl, hO⟩ := hP
            clear HX
            have HQ1 := (HPA.out.outs hO HY.out.emit).below (below_alloc (Below.refl _ _) (.cells #[.int .i64 3, .string (s.extract y.st.toNat y.p.toNat), .int .i64 y.st, .int .i64 y.p, .int .i64 y.cl, .int .i64 y.cs] 169))
            have HQA := Aside0.mk (HQ1.below (below_alloc (Below.refl _ _) (.cells #[.int .i64 2, .int .i64 9, .int .i64 8] 143)))
            have hb1 : b < (w1.alloc (.cells #[.int .i64 3, .string (s.extract y.st.toNat y.p.toNat), .int .i64 y.st, .int .i64 y.p, .int .i64 y.cl, .int .i64 y.cs] 169)).heap.size := HQ1.lex.lt
            have hs1 : w.heap.size ≤ (w1.alloc (.cells #[.int .i64 3, .string (s.extract y.st.toNat y.p.toNat), .int .i64 y.st, .int .i64 y.p, .int .i64 y.cl, .int .i64 y.cs] 169)).heap.size := by have := hO.grown.size; simp at this; simp; omega
            have he1 : (w1.alloc (.cells #[.int .i64 3, .string (s.extract y.st.toNat y.p.toNat), .int .i64 y.st, .int .i64 y.p, .int .i64 y.cl, .int .i64 y.cs] 169)).heap.size = w1.heap.size + 1 := by simp
            have HZ := Aside0.mk (expectPeek_calls ((w1.alloc (.cells #[.int .i64 3, .string (s.extract y.st.toNat y.p.toNat), .int .i64 y.st, .int .i64 y.p, .int .i64 y.cl, .int .i64 y.cs] 169)).alloc (.cells #[.int .i64 2, .int .i64 9, .int .i64 8] 143)) b _ [mv, .bool q.hob] [] s (emitS y) (.pointer (some ⟨b, 0, none⟩)) [2, 9, 8] (w1.heap.size + 1) 3 a HQA.out.lx HQA.out.pe HY.out.emit ⟨_, he1 ▸ heap_alloc_new (w1.alloc (.cells #[.int .i64 3, .string (s.extract y.st.toNat y.p.toNat), .int .i64 y.st, .int .i64 y.p, .int .i64 y.cl, .int .i64 y.cs] 169)) (.cells #[.int .i64 2, .int .i64 9, .int .i64 8] 143)⟩ (by omega) (by simp) _ z HC2.out (tok_ne0 HY.out.emit HC2.out))
            clear hO HQ1 hb1 he1
            unfold tokV
            go_wp2_with fail
            refine HZ.out.mono ?_
            rintro e w2 hP
            unfold ExP at hP
            simp only at hP
            rw [if_pos hin] at hP
            obtain ⟨rfl, hO⟩ := hP
            have HQ := Aside0.mk ((HQA.out.out0 hO).below (below_alloc (Below.refl _ _) (.cells #[.int .i64 j, .string (s.extract z.st.toNat z.p.toNat), .int .i64 z.st, .int .i64 z.p, .int .i64 z.cl, .int .i64 z.cs] 169)))
            clear hO HZ
            unfold tokV
            go_wp2
            go_ret2
            exact ⟨rfl, _, HQ.out⟩
          · have hS : stepP s .co q = none := by unfold stepP; simp [hc, hc2, hj2, hj]
            have hin : ¬ inK [2, 9, 8] j = true := by unfold inK; simp; omega
            rw [hS]
            clear hc hS h hc2
            go_enter Tryz.func146, Tryz.ntmps146
            go_wp2_with fail
            refine HX.out.mono ?_
            rintro e w1 hP
            unfold ExP at hP
            simp only at hP
            rw [if_pos (show inK [3] 3 = true from rfl)] at hP
            obtain ⟨rfl, hO⟩ := hP
            clear HX
            have HQ1 := (HPA.out.outs hO HY.out.emit).below (below_alloc (Below.refl _ _) (.cells #[.int .i64 3, .string (s.extract y.st.toNat y.p.toNat), .int .i64 y.st, .int .i64 y.p, .int .i64 y.cl, .int .i64 y.cs] 169))
            have HQA := Aside0.mk (HQ1.below (below_alloc (Below.refl _ _) (.cells #[.int .i64 2, .int .i64 9, .int .i64 8] 143)))
            have hb1 : b < (w1.alloc (.cells #[.int .i64 3, .string (s.extract y.st.toNat y.p.toNat), .int .i64 y.st, .int .i64 y.p, .int .i64 y.cl, .int .i64 y.cs] 169)).heap.size := HQ1.lex.lt
            have hs1 : w.heap.size ≤ (w1.alloc (.cells #[.int .i64 3, .string (s.extract y.st.toNat y.p.toNat), .int .i64 y.st, .int .i64 y.p, .int .i64 y.cl, .int .i64 y.cs] 169)).heap.size := by have := hO.grown.size; simp at this; simp; omega
            have he1 : (w1.alloc (.cells #[.int .i64 3, .string (s.extract y.st.toNat y.p.toNat), .int .i64 y.st, .int .i64 y.p, .int .i64 y.cl, .int .i64 y.cs] 169)).heap.size = w1.heap.size + 1 := by simp
            have HZ := Aside0.mk (expectPeek_calls ((w1.alloc (.cells #[.int .i64 3, .string (s.extract y.st.toNat y.p.toNat), .int .i64 y.st, .int .i64 y.p, .int .i64 y.cl, .int .i64 y.cs] 169)).alloc (.cells #[.int .i64 2, .int .i64 9, .int .i64 8] 143)) b _ [mv, .bool q.hob] [] s (emitS y) (.pointer (some ⟨b, 0, none⟩)) [2, 9, 8] (w1.heap.size + 1) 3 a HQA.out.lx HQA.out.pe HY.out.emit ⟨_, he1 ▸ heap_alloc_new (w1.alloc (.cells #[.int .i64 3, .string (s.extract y.st.toNat y.p.toNat), .int .i64 y.st, .int .i64 y.p, .int .i64 y.cl, .int .i64 y.cs] 169)) (.cells #[.int .i64 2, .int .i64 9, .int .i64 8] 143)⟩ (by omega) (by simp) _ z HC2.out (tok_ne0 HY.out.emit HC2.out))
            clear hO HQ1 hb1 he1
            unfold tokV
            go_wp2_with fail
            refine HZ.out.mono ?_
            rintro e w2 hP
            unfold ExP at hP
            simp only at hP
            rw [if_neg hin] at hP
            obtain ⟨g, hg, ⟨cg, tg, hgb⟩, rfl, hO⟩ := hP
            have HQ := (HQA.out.out0 hO).below (below_alloc (Below.refl _ _) (.cells #[.int .i64 j, .string (s.extract z.st.toNat z.p.toNat), .int .i64 z.st, .int .i64 z.p, .int .i64 z.cl, .int .i64 z.cs] 169))
            have HB := Aside0.mk HQ.bel
            have hE := HQ.pe.at_.eof
            have hs2 : w0.heap.size ≤ g := by simp at hg hs1; omega
            have HI := Aside0.mk (isNew_calls (w1 := w) HQ.er HQ.bel hs2 ⟨cg, tg, blk_below hgb (below_alloc (Below.refl _ _) (.cells #[.int .i64 j, .string (s.extract z.st.toNat z.p.toNat), .int .i64 z.st, .int .i64 z.p, .int .i64 z.cl, .int .i64 z.cs] 169))⟩)
            obtain ⟨et, ep, hE9⟩ := HQ.pe.at_.e9
            clear hO HZ HQ hgb hin
            unfold tokV
            go_wp2_with fail
            refine HI.out.mono ?_
            rintro e w3 ⟨rfl, rfl⟩
            go_wp2
            try go_region
            all_goals
              try go_wp2
              try go_ret2
              exact ⟨_, _, rfl, by repeat (first | exact HB.out | apply below_alloc | apply below_drew)⟩
    · have hS : stepP s .co q = none := by unfold stepP; simp [hc, hk]
      have hin : ¬ inK [3] k = true := by unfold inK; simp [hk]
      rw [hS]
      clear hc hS h
      go_enter Tryz.func146, Tryz.ntmps146
      go_wp2_with fail
      refine HX.out.mono ?_
      rintro e w1 hP
      unfold ExP at hP
      simp only at hP
      rw [if_neg hin] at hP
      obtain ⟨g, _, _, rfl, hO⟩ := hP
      clear HX
      have HQ := (HPA.out.out0 hO).below (below_alloc (Below.refl _ _) (.cells #[.int .i64 k, .string (s.extract y.st.toNat y.p.toNat), .int .i64 y.st, .int .i64 y.p, .int .i64 y.cl, .int .i64 y.cs] 169))
      have HB := Aside0.mk HQ.bel
      obtain ⟨et, ep, hE⟩ := HQ.pe.at_.e7
      clear hO HQ
      unfold tokV
      go_wp2
      try go_region
      all_goals
        try go_wp2
        try go_ret2
        exact ⟨_, _, rfl, by repeat (first | exact HB.out | apply below_alloc | apply below_drew)⟩
end Go.Proofs.YtnnhehlieakedaaGreatDoor.Q
namespace Go.Proofs.YtnnhehlieakedaaGreatDoor.Q
open Go.RowKit Go.Lib Go.Proofs.YtnnhehlieakedaaGreatDoorW.PrintWords Go.Proofs.YtnnhehlieakedaaGreatDoorW.PrintLast Go.Proofs.YtnnhehlieakedaaGreatDoorW.PrintMore
attribute [local go_sem] max2_int min2_int max_two min_two max_three min_three max_four min_four
theorem PX.setHob {w0 w : World} {a : Addr} {b : Nat} {s : ByteArray} {q : PSt} {mv err : Value} (h : PX w0 w a b s q mv err) (v : Bool) : PX w0 (w.setCell ⟨b, 1, none⟩ (.bool v)) a b s { q with hob := v } mv err := by
  have hg : w.grownBy (w.setCell ⟨b, 1, none⟩ (.bool v)) (some b) := grown_set (World.grownBy.refl w _) _ _
  refine ⟨?_, ?_, h.bel.grown hg h.bel.size (fun k hk => by injection hk with e; have := h.low; omega), h.low, h.gd, h.tb, h.er⟩
  · have hl := h.lex
    unfold LexAt at hl ⊢
    simp only [World.setCell, Array.getElem?_modify, hl]
    rfl
  · refine Kd.R_over' (v := .slice (some ⟨b, 0, none⟩) 0 0) (e' := 92) h.out (fun k hk => ?_) (by decide) hg
    have e : some b = some k := hk
    injection e with e
    exact ⟨_, by rw [← e]; exact h.lex⟩
set_option maxRecDepth 100000 in
set_option maxHeartbeats 4000000 in
theorem parseOpenBrace_calls (w0 w : World) (a : Addr) (b : Nat) (s : ByteArray) (q : PSt) (mv : Value) (h : PX w0 w a b s q mv .nilIface) :
    Calls Tryz.prog 72 #[.pointer (some ⟨b, 0, none⟩), .pointer (some ⟨b, 2, none⟩)] w fun e w' => StP w0 w' a b s (stepP s .ob q) e := by
  obtain ⟨c, hc⟩ : ∃ c, pkT s q.x = c := ⟨_, rfl⟩
  obtain ⟨c, y⟩ := c
  have HPA := Aside0.mk (h.below (below_alloc (Below.refl _ _) (.cells #[.int .i64 1] 143)))
  have HY := Aside0.mk (good_of h.gd hc)
  have HG := Aside0.mk h.gd
  have hlt := h.lex.lt
  have HX := Aside0.mk (accept_calls_p (w.alloc (.cells #[.int .i64 1] 143)) b _ [mv, .bool q.hob] [] s q.x (.pointer (some ⟨b, 0, none⟩)) [1] w.heap.size 1 a HPA.out.lx HPA.out.pe h.gd ⟨_, heap_alloc_new w _⟩ (by omega) (by simp) c y hc (tok_ne0 h.gd hc))
  have hu := Tryz.underlying169
  have hmf : ∀ (fn : Fn) (first cap : Array Value) (w : World), (Instr.makeFunc fn first cap).run Tryz.prog w = .ok (.func fn first cap) w := fun _ _ _ _ => rfl
  cases c with
  | eof =>
    have hS : stepP s .ob q = some (some .eo, { q with hob := false }) := by unfold stepP; simp only [hc]
    rw [hS]
    clear hc hS h
    go_enter Tryz.func72, Tryz.ntmps72
    go_wp2_with fail
    refine HX.out.mono ?_
    rintro e w1 ⟨rfl, hO⟩
    clear HX
    have HQ1 := HPA.out.out0 hO
    have hm := HQ1.chob
    have hfz := HQ1.lex.free 1
    have HQ := Aside0.mk (HQ1.setHob false)
    have hE := HQ.out.pe.at_.eof
    clear hO HQ1
    go_wp2_with fail
    refine (is_same a _).mono ?_
    rintro e w2 ⟨rfl, rfl⟩
    go_wp2
    go_ret2
    exact ⟨rfl, _, HQ.out⟩
  | bad =>
    have hS : stepP s .ob q = none := by unfold stepP; simp only [hc]
    rw [hS]
    clear hc hS h
    go_enter Tryz.func72, Tryz.ntmps72
    go_wp2_with fail
    refine HX.out.mono ?_
    rintro e w1 ⟨ev, hev, rfl, hO⟩
    obtain ⟨ti, pv, rfl, hpl⟩ := hev.plain
    have HI := Aside0.mk hpl
    clear HX
    have HQ1 := HPA.out.out0 hO
    have hm := HQ1.chob
    have hfz := HQ1.lex.free 1
    have HQ := HQ1.setHob false
    have HB := Aside0.mk HQ.bel
    have hE := HQ.pe.at_.eof
    clear hO HQ1 HQ hev hpl
    go_wp2_with fail
    refine (is_plain ti pv a _ HI.out).mono ?_
    rintro e w2 ⟨rfl, rfl⟩
    go_wp2
    try go_region
    all_goals
      try go_wp2
      try go_ret2
      exact ⟨_, _, rfl, by repeat (first | exact HB.out | apply below_alloc | apply below_drew)⟩
  | tok k =>
    obtain ⟨hv, hkv⟩ : ∃ hv, inK [1] k = hv := ⟨_, rfl⟩
    obtain ⟨x1, hx1⟩ : ∃ x1, (if hv = true then emitS y else q.x) = x1 := ⟨_, rfl⟩
    have HG1 : Aside0 (LGd s x1) := ⟨by rw [← hx1]; split; exact HY.out.emit; exact HG.out⟩
    have hq1 : (if k = 1 then { q with hob := true, x := emitS y } else { q with hob := false } : PSt) = { ms := q.ms, hob := hv, x := x1 } := by
      rw [← hx1, ← hkv]
      unfold inK
      by_cases hk : k = 1
      · subst hk; rfl
      · simp [hk]
    obtain ⟨c2, hc2⟩ : ∃ c2, pkT s x1 = c2 := ⟨_, rfl⟩
    obtain ⟨c2, z⟩ := c2
    have HC2 := Aside0.mk hc2
    have hxx : (if hv = true then emitS y else q.x) = x1 := hx1
    cases c2 with
    | eof =>
      have hS : stepP s .ob q = some (some .cb, { ms := q.ms, hob := hv, x := x1 }) := by unfold stepP; simp only [hc, hq1, hc2]
      rw [hS]
      clear hc hS h hc2 hq1
      go_enter Tryz.func72, Tryz.ntmps72
      go_wp2_with fail
      refine HX.out.mono ?_
      rintro e w1 ⟨rfl, hO⟩
      clear HX
      rw [hkv, hxx] at hO
      rw [hkv]
      have HQ1 := HPA.out.outs hO HG1.out
      have hm := HQ1.chob
      have hfz := HQ1.lex.free 1
      have HQ2 := HQ1.setHob hv
      have HQA := Aside0.mk (HQ2.below (below_alloc (Below.refl _ _) (.cells #[.int .i64 2] 143)))
      have hb1 := HQ2.lex.lt
      have hsz : (w1.setCell ⟨b, 1, none⟩ (.bool hv)).heap.size = w1.heap.size := by simp [World.setCell]
      have HZ := Aside0.mk (acceptPeek_calls ((w1.setCell ⟨b, 1, none⟩ (.bool hv)).alloc (.cells #[.int .i64 2] 143)) b _ [mv, .bool hv] [] s x1 (.pointer (some ⟨b, 0, none⟩)) [2] w1.heap.size 1 a HQA.out.lx HQA.out.pe HG1.out ⟨_, hsz ▸ heap_alloc_new (w1.setCell ⟨b, 1, none⟩ (.bool hv)) (.cells #[.int .i64 2] 143)⟩ (by omega) (by simp) _ z HC2.out (tok_ne0 HG1.out HC2.out))
      clear hO HQ1 HQ2 hb1 hsz
      go_wp2_with fail
      refine HZ.out.mono ?_
      rintro e w2 ⟨rfl, hO⟩
      have HQ := Aside0.mk (HQA.out.out0 hO)
      have hE := HQ.out.pe.at_.eof
      clear hO HZ
      go_wp2_with fail
      refine (is_same a _).mono ?_
      rintro e w3 ⟨rfl, rfl⟩
      go_wp2
      go_ret2
      exact ⟨rfl, _, HQ.out⟩
    | bad =>
      have hS : stepP s .ob q = none := by unfold stepP; simp only [hc, hq1, hc2]
      rw [hS]
      clear hc hS h hc2 hq1
      go_enter Tryz.func72, Tryz.ntmps72
      go_wp2_with fail
      refine HX.out.mono ?_
      rintro e w1 ⟨rfl, hO⟩
      clear HX
      rw [hkv, hxx] at hO
      rw [hkv]
      have HQ1 := HPA.out.outs hO HG1.out
      have hm := HQ1.chob
      have hfz := HQ1.lex.free 1
      have HQ2 := HQ1.setHob hv
      have HQA := Aside0.mk (HQ2.below (below_alloc (Below.refl _ _) (.cells #[.int .i64 2] 143)))
      have hb1 := HQ2.lex.lt
      have hsz : (w1.setCell ⟨b, 1, none⟩ (.bool hv)).heap.size = w1.heap.size := by simp [World.setCell]
      have HZ := Aside0.mk (acceptPeek_calls ((w1.setCell ⟨b, 1, none⟩ (.bool hv)).alloc (.cells #[.int .i64 2] 143)) b _ [mv, .bool hv] [] s x1 (.pointer (some ⟨b, 0, none⟩)) [2] w1.heap.size 1 a HQA.out.lx HQA.out.pe HG1.out ⟨_, hsz ▸ heap_alloc_new (w1.setCell ⟨b, 1, none⟩ (.bool hv)) (.cells #[.int .i64 2] 143)⟩ (by omega) (by simp) _ z HC2.out (tok_ne0 HG1.out HC2.out))
      clear hO HQ1 HQ2 hb1 hsz
      go_wp2_with fail
      refine HZ.out.mono ?_
      rintro e w2 ⟨ev, hev, rfl, hO⟩
      obtain ⟨ti, pv, rfl, hpl⟩ := hev.plain
      have HI := Aside0.mk hpl
      have HQ := HQA.out.out0 hO
      have HB := Aside0.mk HQ.bel
      have hE := HQ.pe.at_.eof
      clear hO HQ hev hpl HZ
      go_wp2_with fail
      refine (is_plain ti pv a _ HI.out).mono ?_
      rintro e w3 ⟨rfl, rfl⟩
      go_wp2
      try go_region
      all_goals
        try go_wp2
        try go_ret2
        exact ⟨_, _, rfl, by repeat (first | exact HB.out | apply below_alloc | apply below_drew)⟩
    | tok j =>
      by_cases hj : j = 2
      · have hS : stepP s .ob q = some (some .cb, { ms := q.ms, hob := hv, x := x1 }) := by unfold stepP; simp only [hc, hq1, hc2]; rw [if_pos hj]
        have hin : inK [2] j = true := by rw [hj]; rfl
        rw [hS]
        clear hc hS h hc2 hq1
        go_enter Tryz.func72, Tryz.ntmps72
        go_wp2_with fail
        refine HX.out.mono ?_
        rintro e w1 ⟨rfl, hO⟩
        clear HX
        rw [hkv, hxx] at hO
        rw [hkv]
        have HQ1 := HPA.out.outs hO HG1.out
        have hm := HQ1.chob
        have hfz := HQ1.lex.free 1
        have HQ2 := HQ1.setHob hv
        have HQA := Aside0.mk (HQ2.below (below_alloc (Below.refl _ _) (.cells #[.int .i64 2] 143)))
        have hb1 := HQ2.lex.lt
        have hsz : (w1.setCell ⟨b, 1, none⟩ (.bool hv)).heap.size = w1.heap.size := by simp [World.setCell]
        have HZ := Aside0.mk (acceptPeek_calls ((w1.setCell ⟨b, 1, none⟩ (.bool hv)).alloc (.cells #[.int .i64 2] 143)) b _ [mv, .bool hv] [] s x1 (.pointer (some ⟨b, 0, none⟩)) [2] w1.heap.size 1 a HQA.out.lx HQA.out.pe HG1.out ⟨_, hsz ▸ heap_alloc_new (w1.setCell ⟨b, 1, none⟩ (.bool hv)) (.cells #[.int .i64 2] 143)⟩ (by omega) (by simp) _ z HC2.out (tok_ne0 HG1.out HC2.out))
        clear hO HQ1 HQ2 hb1 hsz
        go_wp2_with fail
        refine HZ.out.mono ?_
        rintro e w2 ⟨rfl, hO⟩
        rw [hin]
        have HQ := Aside0.mk (HQA.out.out0 hO)
        clear hO HZ
        go_wp2
        go_ret2
        exact ⟨rfl, _, HQ.out⟩
      · have hS : stepP s .ob q = some (some .ma, { ms := q.ms, hob := hv, x := x1 }) := by unfold stepP; simp only [hc, hq1, hc2]; rw [if_neg hj]
        have hin : inK [2] j = false := by unfold inK; simp [hj]
        rw [hS]
        clear hc hS h hc2 hq1
        go_enter Tryz.func72, Tryz.ntmps72
        go_wp2_with fail
        refine HX.out.mono ?_
        rintro e w1 ⟨rfl, hO⟩
        clear HX
        rw [hkv, hxx] at hO
        rw [hkv]
        have HQ1 := HPA.out.outs hO HG1.out
        have hm := HQ1.chob
        have hfz := HQ1.lex.free 1
        have HQ2 := HQ1.setHob hv
        have HQA := Aside0.mk (HQ2.below (below_alloc (Below.refl _ _) (.cells #[.int .i64 2] 143)))
        have hb1 := HQ2.lex.lt
        have hsz : (w1.setCell ⟨b, 1, none⟩ (.bool hv)).heap.size = w1.heap.size := by simp [World.setCell]
        have HZ := Aside0.mk (acceptPeek_calls ((w1.setCell ⟨b, 1, none⟩ (.bool hv)).alloc (.cells #[.int .i64 2] 143)) b _ [mv, .bool hv] [] s x1 (.pointer (some ⟨b, 0, none⟩)) [2] w1.heap.size 1 a HQA.out.lx HQA.out.pe HG1.out ⟨_, hsz ▸ heap_alloc_new (w1.setCell ⟨b, 1, none⟩ (.bool hv)) (.cells #[.int .i64 2] 143)⟩ (by omega) (by simp) _ z HC2.out (tok_ne0 HG1.out HC2.out))
        clear hO HQ1 HQ2 hb1 hsz
        go_wp2_with fail
        refine HZ.out.mono ?_
        rintro e w2 ⟨rfl, hO⟩
        rw [hin]
        have HQ := Aside0.mk (HQA.out.out0 hO)
        clear hO HZ
        go_wp2
        go_ret2
        exact ⟨rfl, _, HQ.out⟩
end Go.Proofs.YtnnhehlieakedaaGreatDoor.Q
