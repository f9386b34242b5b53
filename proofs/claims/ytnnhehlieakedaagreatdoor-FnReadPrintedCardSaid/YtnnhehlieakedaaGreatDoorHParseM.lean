/- The parser's state at a matcher. Condition: the library's tables and the package's errors as they are laid, below the parser's block; a text of at most 1000000000 bytes. Plain words: the parser's steps come to an end. No condition. The parser's loop over its states: what parse hands back. Condition: the library's tables and the package's errors as they are laid, below the parser's block; a text of at most 1000000000 bytes. What parse.Matchers, parse.Matcher, impl.ParseMatchers and impl.ParseMatcher return. Condition: the library's tables and the package's errors as they are laid; a text of at most 1000000000 bytes. What impl.ParseMatchers and impl.ParseMatcher return. Condition: the library's tables and the package's errors as they are laid; a text of at most 1000000000 bytes. -/
import Derived.Test.YtnnhehlieakedaaGreatDoorHParBM
import Derived.Test.YtnnhehlieakedaaGreatDoorHUnqM
import Derived.Test.YtnnhehlieakedaaGreatDoorULexQR
import Derived.Test.YtnnhehlieakedaaGreatDoorHParKM
import Derived.Recover
import Derived.Defers
set_option linter.unusedVariables false
set_option linter.unusedSimpArgs false
namespace Go.Proofs.YtnnhehlieakedaaGreatDoor.Q
open Go.RowKit Go.Lib Go.Proofs.YtnnhehlieakedaaGreatDoorW.PrintWords Go.Proofs.YtnnhehlieakedaaGreatDoorW.PrintLast Go.Proofs.YtnnhehlieakedaaGreatDoorW.PrintMore
attribute [local go_sem] max2_int min2_int max_two min_two max_three min_three max_four min_four
/-- A quoted token begins with a quote. -/
theorem quo_head {s : ByteArray} {x y : LSt} (g : LGd s x) (hst : x.st = x.p) (h : pkT s x = (.tok 8, y)) : ∃ b, tokS s y = mk (34 :: b) := by
  obtain ⟨x1, g1, st1, h1⟩ := scan_to 8 _ x g hst h
  have hgood := scan1_good g1 (.tok 8) h1
  have hlt := (hgood.2 8 rfl).1
  have hyp := hgood.1.p1
  have hsame := scan1_same 8 h1
  have s0 := g1.s0
  have hr : nextR s x1.p = 34 := by
    have hb := g1.back
    unfold scan1 at h1
    simp only at h1
    by_cases h5 : nextR s x1.p = 61 ∨ nextR s x1.p = 33
    · rw [if_neg (by omega), if_neg (by omega), if_neg (by omega), if_neg (by omega), if_pos h5] at h1
      have := opF_tok hb 8 (of_tok (Prod.mk.inj (Option.some.inj h1)).1)
      omega
    · by_cases h6 : nextR s x1.p = 34
      · exact h6
      · exfalso
        repeat' split at h1
        all_goals first | (cases h1; done) | (have e := (Prod.mk.inj (Option.some.inj h1)).1; injection e with e; omega) | (simp_all; done)
  have hp : x1.p.toNat < s.size := by omega
  have hb : s.data.toList.getD x1.p.toNat 0 = 34 := by
    unfold nextR at hr
    rw [if_pos hp, ← Lib.decodeL_drop, Lib.decodeL_N] at hr
    have h0 : (s.data.toList.drop x1.p.toNat).getD 0 0 = s.data.toList.getD x1.p.toNat 0 := by rw [getD_dropU, Nat.add_zero]
    rw [h0] at hr
    generalize s.data.toList.getD x1.p.toNat 0 = u at *
    unfold Lib.decodeN at hr
    have hu := UInt8.toNat_lt u
    by_cases h128 : u.toNat < 128
    · rw [if_pos h128] at hr
      apply UInt8.toNat_inj.1
      show u.toNat = 34
      simp at hr
      omega
    · exfalso
      rw [if_neg h128] at hr
      repeat' split at hr
      all_goals (simp only at hr; omega)
  have hyst : y.st = x1.p := hsame.1.trans st1
  unfold tokS
  have e1 : y.st.toNat = x1.p.toNat := by rw [hyst]
  rw [e1, ← mk_eta (s.extract _ _)]
  have hl : (s.extract x1.p.toNat y.p.toNat).data.toList = (s.data.toList.drop x1.p.toNat).take (y.p.toNat - x1.p.toNat) := by
    rw [ByteArray.data_extract, Array.toList_extract]
    try simp only [List.extract_eq_take_drop]
  rw [hl]
  have hlen : x1.p.toNat < s.data.toList.length := by rw [Array.length_toList]; exact hp
  have hpos : 0 < y.p.toNat - x1.p.toNat := by omega
  obtain ⟨n, hn⟩ : ∃ n, y.p.toNat - x1.p.toNat = n + 1 := ⟨y.p.toNat - x1.p.toNat - 1, by omega⟩
  rw [hn, List.drop_eq_getElem_cons hlen, List.take_succ_cons]
  rw [List.getD_eq_getElem?_getD, List.getElem?_eq_getElem hlen] at hb
  exact ⟨_, by rw [show s.data.toList[x1.p.toNat] = 34 from hb]⟩
/-- Where a token was expected and is none: an error, the state as it was. -/
theorem ExP.fail {w w' : World} {b T : Nat} {pre post : List Value} {s : ByteArray} {c : Sc} {x y y0 : LSt} {ks : List Int} {a : Addr} {e : Ending} (h : ExP w w' b T pre post s c x y y0 ks a e) (hn : ∀ k, c = .tok k → inK ks k = false) :
    ∃ (u0 : Int) (u1 : ByteArray) (u2 u3 u4 u5 : Int) (ti : Nat) (pv err : Value), e = .returned (.tuple #[.agg #[.int .i64 u0, .string u1, .int .i64 u2, .int .i64 u3, .int .i64 u4, .int .i64 u5], .iface ti pv]) ∧ LexOut w w' b T pre post s err x := by
  cases c with
  | eof => exact ⟨_, _, _, _, _, _, _, _, _, h.1, h.2⟩
  | bad =>
    obtain ⟨ev, ⟨ti, pv, rfl, _⟩, h1, h2⟩ := h
    exact ⟨_, _, _, _, _, _, _, _, _, h1, h2⟩
  | tok k =>
    unfold ExP at h
    simp only at h
    rw [if_neg (by rw [hn k rfl]; decide)] at h
    obtain ⟨g, _, _, h1, h2⟩ := h
    exact ⟨_, _, _, _, _, _, _, _, _, h1, h2⟩
theorem ExP.fit {w w' : World} {b T : Nat} {pre post : List Value} {s : ByteArray} {k : Int} {x y y0 : LSt} {ks : List Int} {a : Addr} {e : Ending} (h : ExP w w' b T pre post s (.tok k) x y y0 ks a e) (hn : inK ks k = true) :
    e = .returned (.tuple #[.agg #[.int .i64 k, .string (tokS s y), .int .i64 y.st, .int .i64 y.p, .int .i64 y.cl, .int .i64 y.cs], .nilIface]) ∧ LexOut w w' b T pre post s .nilIface y0 := by
  unfold ExP at h
  simp only at h
  rw [if_pos hn] at h
  exact h
/-- The parser, and the block of its token. -/
structure MA (w0 w : World) (a : Addr) (b : Nat) (s : ByteArray) (q : PSt) (mv err : Value) (k : Nat) (u0 u1 u2 u3 u4 u5 : Value) : Prop where
  px : PX w0 w a b s q mv err
  tk : w.heap[k]? = some (.cells #[u0, u1, u2, u3, u4, u5] 169 (0, 0))
  ne : ¬ b = k
  low : w0.heap.size ≤ k
section
variable {w0 w w' : World} {a : Addr} {b : Nat} {s : ByteArray} {q : PSt} {mv err err' : Value} {k : Nat} {u0 u1 u2 u3 u4 u5 : Value} {y : LSt}
theorem MA.outs (h : MA w0 w a b s q mv err k u0 u1 u2 u3 u4 u5) (ho : LexOut w w' b 92 [mv, .bool q.hob] [] s err' y) (hg : LGd s y) : MA w0 w' a b s { q with x := y } mv err' k u0 u1 u2 u3 u4 u5 :=
  ⟨h.px.outs ho hg, (ho.grown.block k (Array.getElem?_eq_some_iff.1 h.tk).1 (fun e => by injection e with e; exact h.ne e.symm)).trans h.tk, h.ne, h.low⟩
theorem MA.below (h : MA w0 w a b s q mv err k u0 u1 u2 u3 u4 u5) (hb : Below w.heap.size w w') : MA w0 w' a b s q mv err k u0 u1 u2 u3 u4 u5 :=
  ⟨h.px.below hb, blk_below h.tk hb, h.ne, h.low⟩
theorem PX.setT (h : PX w0 w a b s q mv err) (hne : ¬ b = k) (hlow : w0.heap.size ≤ k) (cs : Array Value) (hk : w.heap[k]? = some (.cells cs 169 (0, 0))) (o : Nat) (v : Value) : PX w0 (w.setCell ⟨k, o, none⟩ v) a b s q mv err := by
  have hg : w.grownBy (w.setCell ⟨k, o, none⟩ v) (some k) := grown_set (World.grownBy.refl w _) _ _
  refine ⟨h.lex.other hne o v, ?_, h.bel.grown hg h.bel.size (fun j hj => by injection hj with e; omega), h.low, h.gd, h.tb, h.er⟩
  refine Kd.R_over' (v := .slice (some ⟨k, 0, none⟩) 0 0) (e' := 169) h.out (fun j hj => ?_) (by decide) hg
  have e : some k = some j := hj
  injection e with e
  exact ⟨_, by rw [← e]; exact hk⟩
theorem MA.put (h : MA w0 w a b s q mv err k u0 u1 u2 u3 u4 u5) (v0 v1 v2 v3 v4 v5 : Value) :
    MA w0 ((((((w.setCell ⟨k, 0, none⟩ v0).setCell ⟨k, 1, none⟩ v1).setCell ⟨k, 2, none⟩ v2).setCell ⟨k, 3, none⟩ v3).setCell ⟨k, 4, none⟩ v4).setCell ⟨k, 5, none⟩ v5) a b s q mv err k v0 v1 v2 v3 v4 v5 := by
  have t : ∀ {W : World} {cs : Array Value} (o : Nat) (v : Value), W.heap[k]? = some (.cells cs 169 (0, 0)) → ∃ cs', (W.setCell ⟨k, o, none⟩ v).heap[k]? = some (.cells cs' 169 (0, 0)) := fun {W cs} o v hW => ⟨cs.setIfInBounds o v, by simp [World.setCell, Array.getElem?_modify, hW]⟩
  have p0 := h.px.setT h.ne h.low _ h.tk 0 v0
  obtain ⟨c1, k1⟩ := t 0 v0 h.tk
  have p1 := p0.setT h.ne h.low _ k1 1 v1
  obtain ⟨c2, k2⟩ := t 1 v1 k1
  have p2 := p1.setT h.ne h.low _ k2 2 v2
  obtain ⟨c3, k3⟩ := t 2 v2 k2
  have p3 := p2.setT h.ne h.low _ k3 3 v3
  obtain ⟨c4, k4⟩ := t 3 v3 k3
  have p4 := p3.setT h.ne h.low _ k4 4 v4
  obtain ⟨c5, k5⟩ := t 4 v4 k4
  exact ⟨p4.setT h.ne h.low _ k5 5 v5, old_tok h.tk v0 v1 v2 v3 v4 v5, h.ne, h.low⟩
theorem MA.cells (h : MA w0 w a b s q mv err k u0 u1 u2 u3 u4 u5) : w.cell? ⟨k, 0, none⟩ = some u0 ∧ w.cell? ⟨k, 1, none⟩ = some u1 ∧ w.cell? ⟨k, 2, none⟩ = some u2 ∧ w.cell? ⟨k, 3, none⟩ = some u3 ∧ w.cell? ⟨k, 4, none⟩ = some u4 ∧ w.cell? ⟨k, 5, none⟩ = some u5 ∧ ∀ j, w.frozen? ⟨k, j, none⟩ = false := by
  obtain ⟨hc, hf⟩ := cells_in h.tk
  exact ⟨hc 0, hc 1, hc 2, hc 3, hc 4, hc 5, hf⟩
end
theorem tokS_size (s : ByteArray) (y : LSt) : (tokS s y).size ≤ s.size := by
  unfold tokS
  rw [ByteArray.size_extract]
  omega
theorem newMatcherP_calls (k : Int) (n x : ByteArray) (w : World) :
    Calls Tryz.prog 54 #[.int .i64 k, .string n, .string x] w fun e w' => ∃ g, e = .returned (.tuple #[.pointer (some ⟨g, 0, none⟩), .nilIface]) ∧ w.heap.size ≤ g ∧ w'.heap[g]? = some (.cells #[.int .i64 k, .string n, .string x] 82 (0, 0)) ∧ Below w.heap.size w w' := by
  have hu := Tryz.underlying82
  have hup := Tryz.underlying48
  go_enter Tryz.func54, Tryz.ntmps54
  go_wp2
  go_ret2
  exact ⟨w.heap.size, rfl, Nat.le_refl _, heap_alloc_new w _, below_alloc (Below.refl _ _) _⟩
theorem infoPM : (Tryz.prog.info? 48).map (fun i => (i.zero, i.size, i.bytes)) = some (some (.pointer none), 1, 8) := by kernel_rfl
theorem PX.appended {w0 w w7 : World} {a : Addr} {b : Nat} {s : ByteArray} {q : PSt} {mv err v1 : Value} {ms' : List S25} (h : PX w0 w a b s q mv err) (ho : Kd.R (ptrK 82 k25) 48 w7 w0.heap.size (fun _ => True) v1 ms') (hb : Below w0.heap.size w0 w7) (hg : w.grownBy w7 mv.ownBlock) :
    PX w0 (w7.setCell ⟨b, 0, none⟩ v1) a b s { q with ms := ms' } v1 err := by
  have hl : LexAt w7 b 92 [mv, .bool q.hob] [] s err q.x := h.lex.kept hg (fun e => by
    obtain ⟨cells, hc⟩ := Kd.R_typed h.out _ e
    have h2 := h.lex
    unfold LexAt at h2
    rw [h2] at hc
    injection hc with hc
    injection hc with _ hc
    exact absurd hc (by decide))
  have hgb : w7.grownBy (w7.setCell ⟨b, 0, none⟩ v1) (some b) := grown_set (World.grownBy.refl w7 _) _ _
  refine ⟨?_, ?_, hb.grown hgb hb.size (fun k hk => by injection hk with e; have := h.low; omega), h.low, h.gd, h.tb, h.er⟩
  · unfold LexAt at hl ⊢
    simp only [World.setCell, Array.getElem?_modify, hl]
    rfl
  · refine Kd.R_over' (v := .slice (some ⟨b, 0, none⟩) 0 0) (e' := 92) ho (fun k hk => ?_) (by decide) hgb
    have e : some b = some k := hk
    injection e with e
    exact ⟨_, by rw [← e]; exact hl⟩
theorem px_cell0 {w0 w w7 : World} {a : Addr} {b : Nat} {s : ByteArray} {q : PSt} {mv err : Value} (h : PX w0 w a b s q mv err) (hg : w.grownBy w7 mv.ownBlock) : w7.cell? ⟨b, 0, none⟩ = some mv ∧ w7.frozen? ⟨b, 0, none⟩ = false := by
  have hl : LexAt w7 b 92 [mv, .bool q.hob] [] s err q.x := h.lex.kept hg (fun e => by
    obtain ⟨cells, hc⟩ := Kd.R_typed h.out _ e
    have h2 := h.lex
    unfold LexAt at h2
    rw [h2] at hc
    injection hc with hc
    injection hc with _ hc
    exact absurd hc (by decide))
  have h2 := hl
  unfold LexAt at h2
  refine ⟨?_, hl.free 0⟩
  rw [Lib.cell_of_heap h2]
  rfl
set_option maxRecDepth 100000 in
set_option maxHeartbeats 16000000 in
theorem parseMatcher_calls (w0 w : World) (a : Addr) (b : Nat) (s : ByteArray) (q : PSt) (mv : Value) (hs : s.size ≤ 1000000000) (h : PX w0 w a b s q mv .nilIface) (hst : q.x.st = q.x.p) (hml : q.ms.length ≤ s.size) :
    Calls Tryz.prog 89 #[.pointer (some ⟨b, 0, none⟩), .pointer (some ⟨b, 2, none⟩)] w fun e w' => StP w0 w' a b s (stepP s .ma q) e := by
  obtain ⟨c, hc⟩ : ∃ c, pkT s q.x = c := ⟨_, rfl⟩
  obtain ⟨c, y⟩ := c
  have HML : Aside0 (q.ms.length ≤ 1000000000) := ⟨by omega⟩
  have hlt := h.lex.lt
  have HM0 : Aside0 (MA w0 (w.alloc (.cells #[.int .i64 0, .string ⟨#[]⟩, .int .i64 0, .int .i64 0, .int .i64 0, .int .i64 0] 169)) a b s q mv .nilIface w.heap.size _ _ _ _ _ _) := ⟨⟨h.below (below_alloc (Below.refl _ _) _), heap_alloc_new w _, by omega, h.bel.size⟩⟩
  have HMA := Aside0.mk (HM0.out.below (below_alloc (Below.refl _ _) (.cells #[.int .i64 8, .int .i64 9] 143)))
  have HY := Aside0.mk (good_of h.gd hc)
  have HX := Aside0.mk (expect_calls_p ((w.alloc (.cells #[.int .i64 0, .string ⟨#[]⟩, .int .i64 0, .int .i64 0, .int .i64 0, .int .i64 0] 169)).alloc (.cells #[.int .i64 8, .int .i64 9] 143)) b _ [mv, .bool q.hob] [] s q.x (.pointer (some ⟨b, 0, none⟩)) [8, 9] (w.heap.size + 1) 2 a HMA.out.px.lx HMA.out.px.pe h.gd ⟨_, (show (w.alloc (.cells #[.int .i64 0, .string ⟨#[]⟩, .int .i64 0, .int .i64 0, .int .i64 0, .int .i64 0] 169)).heap.size = w.heap.size + 1 by simp) ▸ heap_alloc_new (w.alloc (.cells #[.int .i64 0, .string ⟨#[]⟩, .int .i64 0, .int .i64 0, .int .i64 0, .int .i64 0] 169)) (.cells #[.int .i64 8, .int .i64 9] 143)⟩ (by omega) (by simp) c y hc (tok_ne0 h.gd hc))
  have hu := Tryz.underlying169
  have hmf : ∀ (fn : Fn) (first cap : Array Value) (w : World), (Instr.makeFunc fn first cap).run Tryz.prog w = .ok (.func fn first cap) w := fun _ _ _ _ => rfl
  by_cases hin : ∃ k, c = .tok k ∧ inK [8, 9] k = true
  case neg =>
    have hS : stepP s .ma q = none := by
      unfold stepP
      simp only [hc]
      cases c with
      | eof => rfl
      | bad => rfl
      | tok k =>
        simp only
        rw [if_neg (fun e => hin ⟨k, rfl, by unfold inK; rcases e with rfl | rfl <;> rfl⟩)]
    have HNO : Aside0 (∀ k, c = .tok k → inK [8, 9] k = false) := ⟨fun k e => by
      cases hh : inK [8, 9] k with
      | false => rfl
      | true => exact absurd ⟨k, e, hh⟩ hin⟩
    rw [hS]
    clear hc hS h hin
    go_enter Tryz.func89, Tryz.ntmps89
    go_wp2_with fail
    refine HX.out.mono ?_
    rintro e w1 hP
    obtain ⟨u0, u1, u2, u3, u4, u5, ti, pv, err, rfl, hO⟩ := hP.fail HNO.out
    have HM5 := Aside0.mk (HMA.out.outs hO HMA.out.px.gd)
    have HM6 := Aside0.mk (HM5.out.put (.int .i64 u0) (.string u1) (.int .i64 u2) (.int .i64 u3) (.int .i64 u4) (.int .i64 u5))
    have HB := Aside0.mk HM6.out.px.bel
    obtain ⟨et, ep, hE⟩ := HM6.out.px.pe.at_.e4
    obtain ⟨z0, z1, z2, z3, z4, z5, hfz⟩ := HM5.out.cells
    clear hO HX hP
    go_wp2
    try go_region
    all_goals
      try go_wp2
      try go_ret2
      exact ⟨_, _, rfl, by repeat (first | with_reducible exact HB.out | with_reducible apply below_drew | with_reducible apply below_alloc)⟩
  obtain ⟨k, rfl, hk⟩ := hin
  have hk89 : k = 8 ∨ k = 9 := by unfold inK at hk; simpa using hk
  have HQ1 : Aside0 (k = 8 → ∃ b, tokS s y = mk (34 :: b)) := ⟨fun e => by subst e; exact quo_head h.gd hst hc⟩
  have hsz1 : (tokS s y).size ≤ 1000000000 := Nat.le_trans (tokS_size s y) hs
  have hsz3 : ∀ z, (tokS s z).size ≤ 1000000000 := fun z => Nat.le_trans (tokS_size s z) hs
  have hS0 : stepP s .ma q = match unqT k (tokS s y) with
      | none => none
      | some n => match pkT s (emitS y) with
        | (.tok o, y2) => if 4 ≤ o ∧ o ≤ 7 then match pkT s (emitS y2) with
          | (.tok j, y3) => if j = 8 ∨ j = 9 then match unqT j (tokS s y3) with
            | none => none
            | some v => some (some .en, { q with ms := q.ms ++ [⟨o - 4, n, v⟩], x := emitS y3 })
            else none
          | _ => none
          else none
        | _ => none := by
    conv => lhs; unfold stepP
    simp only [hc]
    rw [if_pos hk89]
    rfl
  obtain ⟨o1, ho1⟩ : ∃ o1, unqT k (tokS s y) = o1 := ⟨_, rfl⟩
  have HO1 := Aside0.mk ho1
  rw [ho1] at hS0
  clear ho1 h hc hst hml
  cases o1 with
  | none =>
    rw [hS0]
    clear hS0
    go_enter Tryz.func89, Tryz.ntmps89
    go_wp2_with fail
    refine HX.out.mono ?_
    rintro e w1 hP
    obtain ⟨rfl, hO⟩ := hP.fit hk
    clear HX
    have HM1 := Aside0.mk (HMA.out.outs hO HY.out.emit)
    have HM2 := Aside0.mk (HM1.out.put (.int .i64 k) (.string (tokS s y)) (.int .i64 y.st) (.int .i64 y.p) (.int .i64 y.cl) (.int .i64 y.cs))
    obtain ⟨z0, z1, z2, z3, z4, z5, hfz⟩ := HM1.out.cells
    clear hO hP
    go_wp2_with fail
    generalize ((((((w1.setCell ⟨w.heap.size, 0, none⟩ (.int .i64 k)).setCell ⟨w.heap.size, 1, none⟩ (.string (tokS s y))).setCell ⟨w.heap.size, 2, none⟩ (.int .i64 y.st)).setCell ⟨w.heap.size, 3, none⟩ (.int .i64 y.p)).setCell ⟨w.heap.size, 4, none⟩ (.int .i64 y.cl)).setCell ⟨w.heap.size, 5, none⟩ (.int .i64 y.cs)) = W1 at HM2 ⊢
    clear z0 z1 z2 z3 z4 z5 hfz HM1
    have HU := Aside0.mk (tokUnquote_calls k (tokS s y) (.int .i64 y.st) (.int .i64 y.p) (.int .i64 y.cl) (.int .i64 y.cs) HQ1.out hsz1 W1 HM2.out.px.lx.tb.tbl HM2.out.px.pe.at_.es)
    rw [HO1.out] at HU
    refine HU.out.mono ?_
    rintro e w2 ⟨x, et, ep, rfl, hb⟩
    have HB2 := Aside0.mk (HM2.out.below hb).px.bel
    clear hb HU HM2
    go_wp2_with fail
    refine (errNew_calls _ _).mono ?_
    rintro e w9 ⟨g, rfl, hb⟩
    have HB := Aside0.mk (below_step HB2.out hb)
    clear hb
    go_wp2
    go_ret2
    exact ⟨_, _, rfl, HB.out⟩
  | some n =>
    simp only at hS0
    obtain ⟨c2, hc2⟩ : ∃ c2, pkT s (emitS y) = c2 := ⟨_, rfl⟩
    obtain ⟨c2, y2⟩ := c2
    have HC2 := Aside0.mk hc2
    have HY2 := Aside0.mk (good_of HY.out.emit hc2)
    rw [hc2] at hS0
    clear hc2
    by_cases hin2 : ∃ o, c2 = .tok o ∧ inK [4, 5, 6, 7] o = true
    case neg =>
      have hS : stepP s .ma q = none := by
        rw [hS0]
        cases c2 with
        | eof => rfl
        | bad => rfl
        | tok o =>
          simp only
          rw [if_neg (fun e => hin2 ⟨o, rfl, by unfold inK; simp; omega⟩)]
      have HNO : Aside0 (∀ k, c2 = .tok k → inK [4, 5, 6, 7] k = false) := ⟨fun k e => by
        cases hh : inK [4, 5, 6, 7] k with
        | false => rfl
        | true => exact absurd ⟨k, e, hh⟩ hin2⟩
      rw [hS]
      clear hS hS0 hin2
      go_enter Tryz.func89, Tryz.ntmps89
      go_wp2_with fail
      refine HX.out.mono ?_
      rintro e w1 hP
      obtain ⟨rfl, hO⟩ := hP.fit hk
      clear HX
      have HM1 := Aside0.mk (HMA.out.outs hO HY.out.emit)
      have HM2 := Aside0.mk (HM1.out.put (.int .i64 k) (.string (tokS s y)) (.int .i64 y.st) (.int .i64 y.p) (.int .i64 y.cl) (.int .i64 y.cs))
      obtain ⟨z0, z1, z2, z3, z4, z5, hfz⟩ := HM1.out.cells
      clear hO hP
      go_wp2_with fail
      generalize ((((((w1.setCell ⟨w.heap.size, 0, none⟩ (.int .i64 k)).setCell ⟨w.heap.size, 1, none⟩ (.string (tokS s y))).setCell ⟨w.heap.size, 2, none⟩ (.int .i64 y.st)).setCell ⟨w.heap.size, 3, none⟩ (.int .i64 y.p)).setCell ⟨w.heap.size, 4, none⟩ (.int .i64 y.cl)).setCell ⟨w.heap.size, 5, none⟩ (.int .i64 y.cs)) = W1 at HM2 ⊢
      clear z0 z1 z2 z3 z4 z5 hfz HM1
      have HU := Aside0.mk (tokUnquote_calls k (tokS s y) (.int .i64 y.st) (.int .i64 y.p) (.int .i64 y.cl) (.int .i64 y.cs) HQ1.out hsz1 W1 HM2.out.px.lx.tb.tbl HM2.out.px.pe.at_.es)
      rw [HO1.out] at HU
      refine HU.out.mono ?_
      rintro e w2 ⟨rfl, hb⟩
      have HM3 := Aside0.mk (HM2.out.below hb)
      clear hb HU HM2
      obtain ⟨z0, z1, z2, z3, z4, z5, hfz⟩ := HM3.out.cells
      have HM4 := Aside0.mk (HM3.out.below (below_alloc (Below.refl _ _) (.cells #[.int .i64 4, .int .i64 5, .int .i64 6, .int .i64 7] 143)))
      have HX2 := Aside0.mk (expect_calls_p (w2.alloc (.cells #[.int .i64 4, .int .i64 5, .int .i64 6, .int .i64 7] 143)) b _ [mv, .bool q.hob] [] s (emitS y) (.pointer (some ⟨b, 0, none⟩)) [4, 5, 6, 7] w2.heap.size 4 a HM4.out.px.lx HM4.out.px.pe HY.out.emit ⟨_, heap_alloc_new w2 _⟩ (by have := HM3.out.px.lex.lt; omega) (by simp) _ y2 HC2.out (tok_ne0 HY.out.emit HC2.out))
      clear z0 z1 z2 z3 z4 z5 hfz
      go_wp2_with fail
      refine HX2.out.mono ?_
      rintro e w3 hP
      obtain ⟨u0, u1, u2, u3, u4, u5, ti, pv, err, rfl, hO⟩ := hP.fail HNO.out
      have HM5 := Aside0.mk (HM4.out.outs hO HM4.out.px.gd)
      have HM6 := Aside0.mk (HM5.out.put (.int .i64 u0) (.string u1) (.int .i64 u2) (.int .i64 u3) (.int .i64 u4) (.int .i64 u5))
      have HB := Aside0.mk HM6.out.px.bel
      obtain ⟨et, ep, hE⟩ := HM6.out.px.pe.at_.e6
      obtain ⟨z0, z1, z2, z3, z4, z5, hfz⟩ := HM5.out.cells
      clear hO HX2 hP
      go_wp2
      try go_region
      all_goals
        try go_wp2
        try go_ret2
        exact ⟨_, _, rfl, by repeat (first | with_reducible exact HB.out | with_reducible apply below_drew | with_reducible apply below_alloc)⟩
    obtain ⟨o, rfl, ho⟩ := hin2
    have ho4 : o = 4 ∨ o = 5 ∨ o = 6 ∨ o = 7 := by unfold inK at ho; simpa using ho
    simp only at hS0
    rw [if_pos (by omega)] at hS0
    obtain ⟨c3, hc3⟩ : ∃ c3, pkT s (emitS y2) = c3 := ⟨_, rfl⟩
    obtain ⟨c3, y3⟩ := c3
    have HC3 := Aside0.mk hc3
    have HY3 := Aside0.mk (good_of HY2.out.emit hc3)
    rw [hc3] at hS0
    by_cases hin3 : ∃ j, c3 = .tok j ∧ inK [9, 8] j = true
    case neg =>
      have hS : stepP s .ma q = none := by
        rw [hS0]
        cases c3 with
        | eof => rfl
        | bad => rfl
        | tok j =>
          simp only
          rw [if_neg (fun e => hin3 ⟨j, rfl, by unfold inK; rcases e with rfl | rfl <;> rfl⟩)]
      have HNO : Aside0 (∀ k, c3 = .tok k → inK [9, 8] k = false) := ⟨fun k e => by
        cases hh : inK [9, 8] k with
        | false => rfl
        | true => exact absurd ⟨k, e, hh⟩ hin3⟩
      rw [hS]
      clear hS hS0 hin3 hc3 ho
      rcases ho4 with rfl | rfl | rfl | rfl
      · go_enter Tryz.func89, Tryz.ntmps89
        go_wp2_with fail
        refine HX.out.mono ?_
        rintro e w1 hP
        obtain ⟨rfl, hO⟩ := hP.fit hk
        clear HX
        have HM1 := Aside0.mk (HMA.out.outs hO HY.out.emit)
        have HM2 := Aside0.mk (HM1.out.put (.int .i64 k) (.string (tokS s y)) (.int .i64 y.st) (.int .i64 y.p) (.int .i64 y.cl) (.int .i64 y.cs))
        obtain ⟨z0, z1, z2, z3, z4, z5, hfz⟩ := HM1.out.cells
        clear hO hP
        go_wp2_with fail
        generalize ((((((w1.setCell ⟨w.heap.size, 0, none⟩ (.int .i64 k)).setCell ⟨w.heap.size, 1, none⟩ (.string (tokS s y))).setCell ⟨w.heap.size, 2, none⟩ (.int .i64 y.st)).setCell ⟨w.heap.size, 3, none⟩ (.int .i64 y.p)).setCell ⟨w.heap.size, 4, none⟩ (.int .i64 y.cl)).setCell ⟨w.heap.size, 5, none⟩ (.int .i64 y.cs)) = W1 at HM2 ⊢
        clear z0 z1 z2 z3 z4 z5 hfz HM1
        have HU := Aside0.mk (tokUnquote_calls k (tokS s y) (.int .i64 y.st) (.int .i64 y.p) (.int .i64 y.cl) (.int .i64 y.cs) HQ1.out hsz1 W1 HM2.out.px.lx.tb.tbl HM2.out.px.pe.at_.es)
        rw [HO1.out] at HU
        refine HU.out.mono ?_
        rintro e w2 ⟨rfl, hb⟩
        have HM3 := Aside0.mk (HM2.out.below hb)
        clear hb HU HM2
        obtain ⟨z0, z1, z2, z3, z4, z5, hfz⟩ := HM3.out.cells
        have HM4 := Aside0.mk (HM3.out.below (below_alloc (Below.refl _ _) (.cells #[.int .i64 4, .int .i64 5, .int .i64 6, .int .i64 7] 143)))
        have HX2 := Aside0.mk (expect_calls_p (w2.alloc (.cells #[.int .i64 4, .int .i64 5, .int .i64 6, .int .i64 7] 143)) b _ [mv, .bool q.hob] [] s (emitS y) (.pointer (some ⟨b, 0, none⟩)) [4, 5, 6, 7] w2.heap.size 4 a HM4.out.px.lx HM4.out.px.pe HY.out.emit ⟨_, heap_alloc_new w2 _⟩ (by have := HM3.out.px.lex.lt; omega) (by simp) _ y2 HC2.out (tok_ne0 HY.out.emit HC2.out))
        clear z0 z1 z2 z3 z4 z5 hfz
        go_wp2_with fail
        refine HX2.out.mono ?_
        rintro e w3 hP
        obtain ⟨rfl, hO⟩ := hP.fit (show inK [4, 5, 6, 7] 4 = true from rfl)
        clear HX2
        have HM5 := Aside0.mk (HM4.out.outs hO HY2.out.emit)
        have HM6 := Aside0.mk (HM5.out.put (.int .i64 4) (.string (tokS s y2)) (.int .i64 y2.st) (.int .i64 y2.p) (.int .i64 y2.cl) (.int .i64 y2.cs))
        obtain ⟨z0, z1, z2, z3, z4, z5, hfz⟩ := HM5.out.cells
        have hzz : (((((((w3.setCell ⟨w.heap.size, 0, none⟩ (.int .i64 4)).setCell ⟨w.heap.size, 1, none⟩ (.string (tokS s y2))).setCell ⟨w.heap.size, 2, none⟩ (.int .i64 y2.st)).setCell ⟨w.heap.size, 3, none⟩ (.int .i64 y2.p)).setCell ⟨w.heap.size, 4, none⟩ (.int .i64 y2.cl)).setCell ⟨w.heap.size, 5, none⟩ (.int .i64 y2.cs))).heap.size = w3.heap.size := by simp [World.setCell]
        clear hO hP
        go_wp2_with fail
        generalize ((((((w3.setCell ⟨w.heap.size, 0, none⟩ (.int .i64 4)).setCell ⟨w.heap.size, 1, none⟩ (.string (tokS s y2))).setCell ⟨w.heap.size, 2, none⟩ (.int .i64 y2.st)).setCell ⟨w.heap.size, 3, none⟩ (.int .i64 y2.p)).setCell ⟨w.heap.size, 4, none⟩ (.int .i64 y2.cl)).setCell ⟨w.heap.size, 5, none⟩ (.int .i64 y2.cs)) = W2 at HM6 hzz ⊢
        clear z0 z1 z2 z3 z4 z5 hfz HM5
        have HM7 := Aside0.mk (HM6.out.below (below_alloc (Below.refl _ _) (.cells #[.int .i64 9, .int .i64 8] 143)))
        have HX3 := Aside0.mk (expect_calls_p (W2.alloc (.cells #[.int .i64 9, .int .i64 8] 143)) b _ [mv, .bool q.hob] [] s (emitS y2) (.pointer (some ⟨b, 0, none⟩)) [9, 8] w3.heap.size 2 a HM7.out.px.lx HM7.out.px.pe HY2.out.emit ⟨_, hzz ▸ heap_alloc_new W2 _⟩ (by have := HM6.out.px.lex.lt; omega) (by simp) _ y3 HC3.out (tok_ne0 HY2.out.emit HC3.out))
        refine HX3.out.mono ?_
        rintro e w4 hP
        obtain ⟨u0, u1, u2, u3, u4, u5, ti, pv, err, rfl, hO⟩ := hP.fail HNO.out
        have HM5 := Aside0.mk (HM7.out.outs hO HM7.out.px.gd)
        have HM6 := Aside0.mk (HM5.out.put (.int .i64 u0) (.string u1) (.int .i64 u2) (.int .i64 u3) (.int .i64 u4) (.int .i64 u5))
        have HB := Aside0.mk HM6.out.px.bel
        obtain ⟨et, ep, hE⟩ := HM6.out.px.pe.at_.e5
        obtain ⟨z0, z1, z2, z3, z4, z5, hfz⟩ := HM5.out.cells
        clear hO HX3 hP
        go_wp2
        try go_region
        all_goals
          try go_wp2
          try go_ret2
          exact ⟨_, _, rfl, by repeat (first | with_reducible exact HB.out | with_reducible apply below_drew | with_reducible apply below_alloc)⟩
      · go_enter Tryz.func89, Tryz.ntmps89
        go_wp2_with fail
        refine HX.out.mono ?_
        rintro e w1 hP
        obtain ⟨rfl, hO⟩ := hP.fit hk
        clear HX
        have HM1 := Aside0.mk (HMA.out.outs hO HY.out.emit)
        have HM2 := Aside0.mk (HM1.out.put (.int .i64 k) (.string (tokS s y)) (.int .i64 y.st) (.int .i64 y.p) (.int .i64 y.cl) (.int .i64 y.cs))
        obtain ⟨z0, z1, z2, z3, z4, z5, hfz⟩ := HM1.out.cells
        clear hO hP
        go_wp2_with fail
        generalize ((((((w1.setCell ⟨w.heap.size, 0, none⟩ (.int .i64 k)).setCell ⟨w.heap.size, 1, none⟩ (.string (tokS s y))).setCell ⟨w.heap.size, 2, none⟩ (.int .i64 y.st)).setCell ⟨w.heap.size, 3, none⟩ (.int .i64 y.p)).setCell ⟨w.heap.size, 4, none⟩ (.int .i64 y.cl)).setCell ⟨w.heap.size, 5, none⟩ (.int .i64 y.cs)) = W1 at HM2 ⊢
        clear z0 z1 z2 z3 z4 z5 hfz HM1
        have HU := Aside0.mk (tokUnquote_calls k (tokS s y) (.int .i64 y.st) (.int .i64 y.p) (.int .i64 y.cl) (.int .i64 y.cs) HQ1.out hsz1 W1 HM2.out.px.lx.tb.tbl HM2.out.px.pe.at_.es)
        rw [HO1.out] at HU
        refine HU.out.mono ?_
        rintro e w2 ⟨rfl, hb⟩
        have HM3 := Aside0.mk (HM2.out.below hb)
        clear hb HU HM2
        obtain ⟨z0, z1, z2, z3, z4, z5, hfz⟩ := HM3.out.cells
        have HM4 := Aside0.mk (HM3.out.below (below_alloc (Below.refl _ _) (.cells #[.int .i64 4, .int .i64 5, .int .i64 6, .int .i64 7] 143)))
        have HX2 := Aside0.mk (expect_calls_p (w2.alloc (.cells #[.int .i64 4, .int .i64 5, .int .i64 6, .int .i64 7] 143)) b _ [mv, .bool q.hob] [] s (emitS y) (.pointer (some ⟨b, 0, none⟩)) [4, 5, 6, 7] w2.heap.size 4 a HM4.out.px.lx HM4.out.px.pe HY.out.emit ⟨_, heap_alloc_new w2 _⟩ (by have := HM3.out.px.lex.lt; omega) (by simp) _ y2 HC2.out (tok_ne0 HY.out.emit HC2.out))
        clear z0 z1 z2 z3 z4 z5 hfz
        go_wp2_with fail
        refine HX2.out.mono ?_
        rintro e w3 hP
        obtain ⟨rfl, hO⟩ := hP.fit (show inK [4, 5, 6, 7] 5 = true from rfl)
        clear HX2
        have HM5 := Aside0.mk (HM4.out.outs hO HY2.out.emit)
        have HM6 := Aside0.mk (HM5.out.put (.int .i64 5) (.string (tokS s y2)) (.int .i64 y2.st) (.int .i64 y2.p) (.int .i64 y2.cl) (.int .i64 y2.cs))
        obtain ⟨z0, z1, z2, z3, z4, z5, hfz⟩ := HM5.out.cells
        have hzz : (((((((w3.setCell ⟨w.heap.size, 0, none⟩ (.int .i64 5)).setCell ⟨w.heap.size, 1, none⟩ (.string (tokS s y2))).setCell ⟨w.heap.size, 2, none⟩ (.int .i64 y2.st)).setCell ⟨w.heap.size, 3, none⟩ (.int .i64 y2.p)).setCell ⟨w.heap.size, 4, none⟩ (.int .i64 y2.cl)).setCell ⟨w.heap.size, 5, none⟩ (.int .i64 y2.cs))).heap.size = w3.heap.size := by simp [World.setCell]
        clear hO hP
        go_wp2_with fail
        generalize ((((((w3.setCell ⟨w.heap.size, 0, none⟩ (.int .i64 5)).setCell ⟨w.heap.size, 1, none⟩ (.string (tokS s y2))).setCell ⟨w.heap.size, 2, none⟩ (.int .i64 y2.st)).setCell ⟨w.heap.size, 3, none⟩ (.int .i64 y2.p)).setCell ⟨w.heap.size, 4, none⟩ (.int .i64 y2.cl)).setCell ⟨w.heap.size, 5, none⟩ (.int .i64 y2.cs)) = W2 at HM6 hzz ⊢
        clear z0 z1 z2 z3 z4 z5 hfz HM5
        have HM7 := Aside0.mk (HM6.out.below (below_alloc (Below.refl _ _) (.cells #[.int .i64 9, .int .i64 8] 143)))
        have HX3 := Aside0.mk (expect_calls_p (W2.alloc (.cells #[.int .i64 9, .int .i64 8] 143)) b _ [mv, .bool q.hob] [] s (emitS y2) (.pointer (some ⟨b, 0, none⟩)) [9, 8] w3.heap.size 2 a HM7.out.px.lx HM7.out.px.pe HY2.out.emit ⟨_, hzz ▸ heap_alloc_new W2 _⟩ (by have := HM6.out.px.lex.lt; omega) (by simp) _ y3 HC3.out (tok_ne0 HY2.out.emit HC3.out))
        refine HX3.out.mono ?_
        rintro e w4 hP
        obtain ⟨u0, u1, u2, u3, u4, u5, ti, pv, err, rfl, hO⟩ := hP.fail HNO.out
        have HM5 := Aside0.mk (HM7.out.outs hO HM7.out.px.gd)
        have HM6 := Aside0.mk (HM5.out.put (.int .i64 u0) (.string u1) (.int .i64 u2) (.int .i64 u3) (.int .i64 u4) (.int .i64 u5))
        have HB := Aside0.mk HM6.out.px.bel
        obtain ⟨et, ep, hE⟩ := HM6.out.px.pe.at_.e5
        obtain ⟨z0, z1, z2, z3, z4, z5, hfz⟩ := HM5.out.cells
        clear hO HX3 hP
        go_wp2
        try go_region
        all_goals
          try go_wp2
          try go_ret2
          exact ⟨_, _, rfl, by repeat (first | with_reducible exact HB.out | with_reducible apply below_drew | with_reducible apply below_alloc)⟩
      · go_enter Tryz.func89, Tryz.ntmps89
        go_wp2_with fail
        refine HX.out.mono ?_
        rintro e w1 hP
        obtain ⟨rfl, hO⟩ := hP.fit hk
        clear HX
        have HM1 := Aside0.mk (HMA.out.outs hO HY.out.emit)
        have HM2 := Aside0.mk (HM1.out.put (.int .i64 k) (.string (tokS s y)) (.int .i64 y.st) (.int .i64 y.p) (.int .i64 y.cl) (.int .i64 y.cs))
        obtain ⟨z0, z1, z2, z3, z4, z5, hfz⟩ := HM1.out.cells
        clear hO hP
        go_wp2_with fail
        generalize ((((((w1.setCell ⟨w.heap.size, 0, none⟩ (.int .i64 k)).setCell ⟨w.heap.size, 1, none⟩ (.string (tokS s y))).setCell ⟨w.heap.size, 2, none⟩ (.int .i64 y.st)).setCell ⟨w.heap.size, 3, none⟩ (.int .i64 y.p)).setCell ⟨w.heap.size, 4, none⟩ (.int .i64 y.cl)).setCell ⟨w.heap.size, 5, none⟩ (.int .i64 y.cs)) = W1 at HM2 ⊢
        clear z0 z1 z2 z3 z4 z5 hfz HM1
        have HU := Aside0.mk (tokUnquote_calls k (tokS s y) (.int .i64 y.st) (.int .i64 y.p) (.int .i64 y.cl) (.int .i64 y.cs) HQ1.out hsz1 W1 HM2.out.px.lx.tb.tbl HM2.out.px.pe.at_.es)
        rw [HO1.out] at HU
        refine HU.out.mono ?_
        rintro e w2 ⟨rfl, hb⟩
        have HM3 := Aside0.mk (HM2.out.below hb)
        clear hb HU HM2
        obtain ⟨z0, z1, z2, z3, z4, z5, hfz⟩ := HM3.out.cells
        have HM4 := Aside0.mk (HM3.out.below (below_alloc (Below.refl _ _) (.cells #[.int .i64 4, .int .i64 5, .int .i64 6, .int .i64 7] 143)))
        have HX2 := Aside0.mk (expect_calls_p (w2.alloc (.cells #[.int .i64 4, .int .i64 5, .int .i64 6, .int .i64 7] 143)) b _ [mv, .bool q.hob] [] s (emitS y) (.pointer (some ⟨b, 0, none⟩)) [4, 5, 6, 7] w2.heap.size 4 a HM4.out.px.lx HM4.out.px.pe HY.out.emit ⟨_, heap_alloc_new w2 _⟩ (by have := HM3.out.px.lex.lt; omega) (by simp) _ y2 HC2.out (tok_ne0 HY.out.emit HC2.out))
        clear z0 z1 z2 z3 z4 z5 hfz
        go_wp2_with fail
        refine HX2.out.mono ?_
        rintro e w3 hP
        obtain ⟨rfl, hO⟩ := hP.fit (show inK [4, 5, 6, 7] 6 = true from rfl)
        clear HX2
        have HM5 := Aside0.mk (HM4.out.outs hO HY2.out.emit)
        have HM6 := Aside0.mk (HM5.out.put (.int .i64 6) (.string (tokS s y2)) (.int .i64 y2.st) (.int .i64 y2.p) (.int .i64 y2.cl) (.int .i64 y2.cs))
        obtain ⟨z0, z1, z2, z3, z4, z5, hfz⟩ := HM5.out.cells
        have hzz : (((((((w3.setCell ⟨w.heap.size, 0, none⟩ (.int .i64 6)).setCell ⟨w.heap.size, 1, none⟩ (.string (tokS s y2))).setCell ⟨w.heap.size, 2, none⟩ (.int .i64 y2.st)).setCell ⟨w.heap.size, 3, none⟩ (.int .i64 y2.p)).setCell ⟨w.heap.size, 4, none⟩ (.int .i64 y2.cl)).setCell ⟨w.heap.size, 5, none⟩ (.int .i64 y2.cs))).heap.size = w3.heap.size := by simp [World.setCell]
        clear hO hP
        go_wp2_with fail
        generalize ((((((w3.setCell ⟨w.heap.size, 0, none⟩ (.int .i64 6)).setCell ⟨w.heap.size, 1, none⟩ (.string (tokS s y2))).setCell ⟨w.heap.size, 2, none⟩ (.int .i64 y2.st)).setCell ⟨w.heap.size, 3, none⟩ (.int .i64 y2.p)).setCell ⟨w.heap.size, 4, none⟩ (.int .i64 y2.cl)).setCell ⟨w.heap.size, 5, none⟩ (.int .i64 y2.cs)) = W2 at HM6 hzz ⊢
        clear z0 z1 z2 z3 z4 z5 hfz HM5
        have HM7 := Aside0.mk (HM6.out.below (below_alloc (Below.refl _ _) (.cells #[.int .i64 9, .int .i64 8] 143)))
        have HX3 := Aside0.mk (expect_calls_p (W2.alloc (.cells #[.int .i64 9, .int .i64 8] 143)) b _ [mv, .bool q.hob] [] s (emitS y2) (.pointer (some ⟨b, 0, none⟩)) [9, 8] w3.heap.size 2 a HM7.out.px.lx HM7.out.px.pe HY2.out.emit ⟨_, hzz ▸ heap_alloc_new W2 _⟩ (by have := HM6.out.px.lex.lt; omega) (by simp) _ y3 HC3.out (tok_ne0 HY2.out.emit HC3.out))
        refine HX3.out.mono ?_
        rintro e w4 hP
        obtain ⟨u0, u1, u2, u3, u4, u5, ti, pv, err, rfl, hO⟩ := hP.fail HNO.out
        have HM5 := Aside0.mk (HM7.out.outs hO HM7.out.px.gd)
        have HM6 := Aside0.mk (HM5.out.put (.int .i64 u0) (.string u1) (.int .i64 u2) (.int .i64 u3) (.int .i64 u4) (.int .i64 u5))
        have HB := Aside0.mk HM6.out.px.bel
        obtain ⟨et, ep, hE⟩ := HM6.out.px.pe.at_.e5
        obtain ⟨z0, z1, z2, z3, z4, z5, hfz⟩ := HM5.out.cells
        clear hO HX3 hP
        go_wp2
        try go_region
        all_goals
          try go_wp2
          try go_ret2
          exact ⟨_, _, rfl, by repeat (first | with_reducible exact HB.out | with_reducible apply below_drew | with_reducible apply below_alloc)⟩
      · go_enter Tryz.func89, Tryz.ntmps89
        go_wp2_with fail
        refine HX.out.mono ?_
        rintro e w1 hP
        obtain ⟨rfl, hO⟩ := hP.fit hk
        clear HX
        have HM1 := Aside0.mk (HMA.out.outs hO HY.out.emit)
        have HM2 := Aside0.mk (HM1.out.put (.int .i64 k) (.string (tokS s y)) (.int .i64 y.st) (.int .i64 y.p) (.int .i64 y.cl) (.int .i64 y.cs))
        obtain ⟨z0, z1, z2, z3, z4, z5, hfz⟩ := HM1.out.cells
        clear hO hP
        go_wp2_with fail
        generalize ((((((w1.setCell ⟨w.heap.size, 0, none⟩ (.int .i64 k)).setCell ⟨w.heap.size, 1, none⟩ (.string (tokS s y))).setCell ⟨w.heap.size, 2, none⟩ (.int .i64 y.st)).setCell ⟨w.heap.size, 3, none⟩ (.int .i64 y.p)).setCell ⟨w.heap.size, 4, none⟩ (.int .i64 y.cl)).setCell ⟨w.heap.size, 5, none⟩ (.int .i64 y.cs)) = W1 at HM2 ⊢
        clear z0 z1 z2 z3 z4 z5 hfz HM1
        have HU := Aside0.mk (tokUnquote_calls k (tokS s y) (.int .i64 y.st) (.int .i64 y.p) (.int .i64 y.cl) (.int .i64 y.cs) HQ1.out hsz1 W1 HM2.out.px.lx.tb.tbl HM2.out.px.pe.at_.es)
        rw [HO1.out] at HU
        refine HU.out.mono ?_
        rintro e w2 ⟨rfl, hb⟩
        have HM3 := Aside0.mk (HM2.out.below hb)
        clear hb HU HM2
        obtain ⟨z0, z1, z2, z3, z4, z5, hfz⟩ := HM3.out.cells
        have HM4 := Aside0.mk (HM3.out.below (below_alloc (Below.refl _ _) (.cells #[.int .i64 4, .int .i64 5, .int .i64 6, .int .i64 7] 143)))
        have HX2 := Aside0.mk (expect_calls_p (w2.alloc (.cells #[.int .i64 4, .int .i64 5, .int .i64 6, .int .i64 7] 143)) b _ [mv, .bool q.hob] [] s (emitS y) (.pointer (some ⟨b, 0, none⟩)) [4, 5, 6, 7] w2.heap.size 4 a HM4.out.px.lx HM4.out.px.pe HY.out.emit ⟨_, heap_alloc_new w2 _⟩ (by have := HM3.out.px.lex.lt; omega) (by simp) _ y2 HC2.out (tok_ne0 HY.out.emit HC2.out))
        clear z0 z1 z2 z3 z4 z5 hfz
        go_wp2_with fail
        refine HX2.out.mono ?_
        rintro e w3 hP
        obtain ⟨rfl, hO⟩ := hP.fit (show inK [4, 5, 6, 7] 7 = true from rfl)
        clear HX2
        have HM5 := Aside0.mk (HM4.out.outs hO HY2.out.emit)
        have HM6 := Aside0.mk (HM5.out.put (.int .i64 7) (.string (tokS s y2)) (.int .i64 y2.st) (.int .i64 y2.p) (.int .i64 y2.cl) (.int .i64 y2.cs))
        obtain ⟨z0, z1, z2, z3, z4, z5, hfz⟩ := HM5.out.cells
        have hzz : (((((((w3.setCell ⟨w.heap.size, 0, none⟩ (.int .i64 7)).setCell ⟨w.heap.size, 1, none⟩ (.string (tokS s y2))).setCell ⟨w.heap.size, 2, none⟩ (.int .i64 y2.st)).setCell ⟨w.heap.size, 3, none⟩ (.int .i64 y2.p)).setCell ⟨w.heap.size, 4, none⟩ (.int .i64 y2.cl)).setCell ⟨w.heap.size, 5, none⟩ (.int .i64 y2.cs))).heap.size = w3.heap.size := by simp [World.setCell]
        clear hO hP
        go_wp2_with fail
        generalize ((((((w3.setCell ⟨w.heap.size, 0, none⟩ (.int .i64 7)).setCell ⟨w.heap.size, 1, none⟩ (.string (tokS s y2))).setCell ⟨w.heap.size, 2, none⟩ (.int .i64 y2.st)).setCell ⟨w.heap.size, 3, none⟩ (.int .i64 y2.p)).setCell ⟨w.heap.size, 4, none⟩ (.int .i64 y2.cl)).setCell ⟨w.heap.size, 5, none⟩ (.int .i64 y2.cs)) = W2 at HM6 hzz ⊢
        clear z0 z1 z2 z3 z4 z5 hfz HM5
        have HM7 := Aside0.mk (HM6.out.below (below_alloc (Below.refl _ _) (.cells #[.int .i64 9, .int .i64 8] 143)))
        have HX3 := Aside0.mk (expect_calls_p (W2.alloc (.cells #[.int .i64 9, .int .i64 8] 143)) b _ [mv, .bool q.hob] [] s (emitS y2) (.pointer (some ⟨b, 0, none⟩)) [9, 8] w3.heap.size 2 a HM7.out.px.lx HM7.out.px.pe HY2.out.emit ⟨_, hzz ▸ heap_alloc_new W2 _⟩ (by have := HM6.out.px.lex.lt; omega) (by simp) _ y3 HC3.out (tok_ne0 HY2.out.emit HC3.out))
        refine HX3.out.mono ?_
        rintro e w4 hP
        obtain ⟨u0, u1, u2, u3, u4, u5, ti, pv, err, rfl, hO⟩ := hP.fail HNO.out
        have HM5 := Aside0.mk (HM7.out.outs hO HM7.out.px.gd)
        have HM6 := Aside0.mk (HM5.out.put (.int .i64 u0) (.string u1) (.int .i64 u2) (.int .i64 u3) (.int .i64 u4) (.int .i64 u5))
        have HB := Aside0.mk HM6.out.px.bel
        obtain ⟨et, ep, hE⟩ := HM6.out.px.pe.at_.e5
        obtain ⟨z0, z1, z2, z3, z4, z5, hfz⟩ := HM5.out.cells
        clear hO HX3 hP
        go_wp2
        try go_region
        all_goals
          try go_wp2
          try go_ret2
          exact ⟨_, _, rfl, by repeat (first | with_reducible exact HB.out | with_reducible apply below_drew | with_reducible apply below_alloc)⟩
    obtain ⟨j, rfl, hj⟩ := hin3
    have hj89 : j = 8 ∨ j = 9 := by unfold inK at hj; simp at hj; omega
    simp only at hS0
    rw [if_pos hj89] at hS0
    have HQ3 : Aside0 (j = 8 → ∃ b, tokS s y3 = mk (34 :: b)) := ⟨fun e => by subst e; exact quo_head HY2.out.emit rfl hc3⟩
    replace hsz3 := hsz3 y3
    obtain ⟨o3, ho3⟩ : ∃ o3, unqT j (tokS s y3) = o3 := ⟨_, rfl⟩
    have HO3 := Aside0.mk ho3
    rw [ho3] at hS0
    clear ho3 hc3 ho
    cases o3 with
    | none =>
      rw [hS0]
      clear hS0
      rcases ho4 with rfl | rfl | rfl | rfl
      · go_enter Tryz.func89, Tryz.ntmps89
        go_wp2_with fail
        refine HX.out.mono ?_
        rintro e w1 hP
        obtain ⟨rfl, hO⟩ := hP.fit hk
        clear HX
        have HM1 := Aside0.mk (HMA.out.outs hO HY.out.emit)
        have HM2 := Aside0.mk (HM1.out.put (.int .i64 k) (.string (tokS s y)) (.int .i64 y.st) (.int .i64 y.p) (.int .i64 y.cl) (.int .i64 y.cs))
        obtain ⟨z0, z1, z2, z3, z4, z5, hfz⟩ := HM1.out.cells
        clear hO hP
        go_wp2_with fail
        generalize ((((((w1.setCell ⟨w.heap.size, 0, none⟩ (.int .i64 k)).setCell ⟨w.heap.size, 1, none⟩ (.string (tokS s y))).setCell ⟨w.heap.size, 2, none⟩ (.int .i64 y.st)).setCell ⟨w.heap.size, 3, none⟩ (.int .i64 y.p)).setCell ⟨w.heap.size, 4, none⟩ (.int .i64 y.cl)).setCell ⟨w.heap.size, 5, none⟩ (.int .i64 y.cs)) = W1 at HM2 ⊢
        clear z0 z1 z2 z3 z4 z5 hfz HM1
        have HU := Aside0.mk (tokUnquote_calls k (tokS s y) (.int .i64 y.st) (.int .i64 y.p) (.int .i64 y.cl) (.int .i64 y.cs) HQ1.out hsz1 W1 HM2.out.px.lx.tb.tbl HM2.out.px.pe.at_.es)
        rw [HO1.out] at HU
        refine HU.out.mono ?_
        rintro e w2 ⟨rfl, hb⟩
        have HM3 := Aside0.mk (HM2.out.below hb)
        clear hb HU HM2
        obtain ⟨z0, z1, z2, z3, z4, z5, hfz⟩ := HM3.out.cells
        have HM4 := Aside0.mk (HM3.out.below (below_alloc (Below.refl _ _) (.cells #[.int .i64 4, .int .i64 5, .int .i64 6, .int .i64 7] 143)))
        have HX2 := Aside0.mk (expect_calls_p (w2.alloc (.cells #[.int .i64 4, .int .i64 5, .int .i64 6, .int .i64 7] 143)) b _ [mv, .bool q.hob] [] s (emitS y) (.pointer (some ⟨b, 0, none⟩)) [4, 5, 6, 7] w2.heap.size 4 a HM4.out.px.lx HM4.out.px.pe HY.out.emit ⟨_, heap_alloc_new w2 _⟩ (by have := HM3.out.px.lex.lt; omega) (by simp) _ y2 HC2.out (tok_ne0 HY.out.emit HC2.out))
        clear z0 z1 z2 z3 z4 z5 hfz
        go_wp2_with fail
        refine HX2.out.mono ?_
        rintro e w3 hP
        obtain ⟨rfl, hO⟩ := hP.fit (show inK [4, 5, 6, 7] 4 = true from rfl)
        clear HX2
        have HM5 := Aside0.mk (HM4.out.outs hO HY2.out.emit)
        have HM6 := Aside0.mk (HM5.out.put (.int .i64 4) (.string (tokS s y2)) (.int .i64 y2.st) (.int .i64 y2.p) (.int .i64 y2.cl) (.int .i64 y2.cs))
        obtain ⟨z0, z1, z2, z3, z4, z5, hfz⟩ := HM5.out.cells
        have hzz : (((((((w3.setCell ⟨w.heap.size, 0, none⟩ (.int .i64 4)).setCell ⟨w.heap.size, 1, none⟩ (.string (tokS s y2))).setCell ⟨w.heap.size, 2, none⟩ (.int .i64 y2.st)).setCell ⟨w.heap.size, 3, none⟩ (.int .i64 y2.p)).setCell ⟨w.heap.size, 4, none⟩ (.int .i64 y2.cl)).setCell ⟨w.heap.size, 5, none⟩ (.int .i64 y2.cs))).heap.size = w3.heap.size := by simp [World.setCell]
        clear hO hP
        go_wp2_with fail
        generalize ((((((w3.setCell ⟨w.heap.size, 0, none⟩ (.int .i64 4)).setCell ⟨w.heap.size, 1, none⟩ (.string (tokS s y2))).setCell ⟨w.heap.size, 2, none⟩ (.int .i64 y2.st)).setCell ⟨w.heap.size, 3, none⟩ (.int .i64 y2.p)).setCell ⟨w.heap.size, 4, none⟩ (.int .i64 y2.cl)).setCell ⟨w.heap.size, 5, none⟩ (.int .i64 y2.cs)) = W2 at HM6 hzz ⊢
        clear z0 z1 z2 z3 z4 z5 hfz HM5
        have HM7 := Aside0.mk (HM6.out.below (below_alloc (Below.refl _ _) (.cells #[.int .i64 9, .int .i64 8] 143)))
        have HX3 := Aside0.mk (expect_calls_p (W2.alloc (.cells #[.int .i64 9, .int .i64 8] 143)) b _ [mv, .bool q.hob] [] s (emitS y2) (.pointer (some ⟨b, 0, none⟩)) [9, 8] w3.heap.size 2 a HM7.out.px.lx HM7.out.px.pe HY2.out.emit ⟨_, hzz ▸ heap_alloc_new W2 _⟩ (by have := HM6.out.px.lex.lt; omega) (by simp) _ y3 HC3.out (tok_ne0 HY2.out.emit HC3.out))
        refine HX3.out.mono ?_
        rintro e w4 hP
        obtain ⟨rfl, hO⟩ := hP.fit hj
        clear HX3
        have HM8 := Aside0.mk (HM7.out.outs hO HY3.out.emit)
        have HM9 := Aside0.mk (HM8.out.put (.int .i64 j) (.string (tokS s y3)) (.int .i64 y3.st) (.int .i64 y3.p) (.int .i64 y3.cl) (.int .i64 y3.cs))
        obtain ⟨z0, z1, z2, z3, z4, z5, hfz⟩ := HM8.out.cells
        clear hO hP
        go_wp2_with fail
        generalize ((((((w4.setCell ⟨w.heap.size, 0, none⟩ (.int .i64 j)).setCell ⟨w.heap.size, 1, none⟩ (.string (tokS s y3))).setCell ⟨w.heap.size, 2, none⟩ (.int .i64 y3.st)).setCell ⟨w.heap.size, 3, none⟩ (.int .i64 y3.p)).setCell ⟨w.heap.size, 4, none⟩ (.int .i64 y3.cl)).setCell ⟨w.heap.size, 5, none⟩ (.int .i64 y3.cs)) = W3 at HM9 ⊢
        clear z0 z1 z2 z3 z4 z5 hfz HM8
        have HU2 := Aside0.mk (tokUnquote_calls j (tokS s y3) (.int .i64 y3.st) (.int .i64 y3.p) (.int .i64 y3.cl) (.int .i64 y3.cs) HQ3.out hsz3 W3 HM9.out.px.lx.tb.tbl HM9.out.px.pe.at_.es)
        rw [HO3.out] at HU2
        refine HU2.out.mono ?_
        rintro e w5 ⟨x, et, ep, rfl, hb⟩
        have HB2 := Aside0.mk (HM9.out.below hb).px.bel
        clear hb HU2 HM9
        go_wp2_with fail
        refine (errNew_calls _ _).mono ?_
        rintro e w9 ⟨g, rfl, hb⟩
        have HB := Aside0.mk (below_step HB2.out hb)
        clear hb
        go_wp2
        go_ret2
        exact ⟨_, _, rfl, HB.out⟩
      · go_enter Tryz.func89, Tryz.ntmps89
        go_wp2_with fail
        refine HX.out.mono ?_
        rintro e w1 hP
        obtain ⟨rfl, hO⟩ := hP.fit hk
        clear HX
        have HM1 := Aside0.mk (HMA.out.outs hO HY.out.emit)
        have HM2 := Aside0.mk (HM1.out.put (.int .i64 k) (.string (tokS s y)) (.int .i64 y.st) (.int .i64 y.p) (.int .i64 y.cl) (.int .i64 y.cs))
        obtain ⟨z0, z1, z2, z3, z4, z5, hfz⟩ := HM1.out.cells
        clear hO hP
        go_wp2_with fail
        generalize ((((((w1.setCell ⟨w.heap.size, 0, none⟩ (.int .i64 k)).setCell ⟨w.heap.size, 1, none⟩ (.string (tokS s y))).setCell ⟨w.heap.size, 2, none⟩ (.int .i64 y.st)).setCell ⟨w.heap.size, 3, none⟩ (.int .i64 y.p)).setCell ⟨w.heap.size, 4, none⟩ (.int .i64 y.cl)).setCell ⟨w.heap.size, 5, none⟩ (.int .i64 y.cs)) = W1 at HM2 ⊢
        clear z0 z1 z2 z3 z4 z5 hfz HM1
        have HU := Aside0.mk (tokUnquote_calls k (tokS s y) (.int .i64 y.st) (.int .i64 y.p) (.int .i64 y.cl) (.int .i64 y.cs) HQ1.out hsz1 W1 HM2.out.px.lx.tb.tbl HM2.out.px.pe.at_.es)
        rw [HO1.out] at HU
        refine HU.out.mono ?_
        rintro e w2 ⟨rfl, hb⟩
        have HM3 := Aside0.mk (HM2.out.below hb)
        clear hb HU HM2
        obtain ⟨z0, z1, z2, z3, z4, z5, hfz⟩ := HM3.out.cells
        have HM4 := Aside0.mk (HM3.out.below (below_alloc (Below.refl _ _) (.cells #[.int .i64 4, .int .i64 5, .int .i64 6, .int .i64 7] 143)))
        have HX2 := Aside0.mk (expect_calls_p (w2.alloc (.cells #[.int .i64 4, .int .i64 5, .int .i64 6, .int .i64 7] 143)) b _ [mv, .bool q.hob] [] s (emitS y) (.pointer (some ⟨b, 0, none⟩)) [4, 5, 6, 7] w2.heap.size 4 a HM4.out.px.lx HM4.out.px.pe HY.out.emit ⟨_, heap_alloc_new w2 _⟩ (by have := HM3.out.px.lex.lt; omega) (by simp) _ y2 HC2.out (tok_ne0 HY.out.emit HC2.out))
        clear z0 z1 z2 z3 z4 z5 hfz
        go_wp2_with fail
        refine HX2.out.mono ?_
        rintro e w3 hP
        obtain ⟨rfl, hO⟩ := hP.fit (show inK [4, 5, 6, 7] 5 = true from rfl)
        clear HX2
        have HM5 := Aside0.mk (HM4.out.outs hO HY2.out.emit)
        have HM6 := Aside0.mk (HM5.out.put (.int .i64 5) (.string (tokS s y2)) (.int .i64 y2.st) (.int .i64 y2.p) (.int .i64 y2.cl) (.int .i64 y2.cs))
        obtain ⟨z0, z1, z2, z3, z4, z5, hfz⟩ := HM5.out.cells
        have hzz : (((((((w3.setCell ⟨w.heap.size, 0, none⟩ (.int .i64 5)).setCell ⟨w.heap.size, 1, none⟩ (.string (tokS s y2))).setCell ⟨w.heap.size, 2, none⟩ (.int .i64 y2.st)).setCell ⟨w.heap.size, 3, none⟩ (.int .i64 y2.p)).setCell ⟨w.heap.size, 4, none⟩ (.int .i64 y2.cl)).setCell ⟨w.heap.size, 5, none⟩ (.int .i64 y2.cs))).heap.size = w3.heap.size := by simp [World.setCell]
        clear hO hP
        go_wp2_with fail
        generalize ((((((w3.setCell ⟨w.heap.size, 0, none⟩ (.int .i64 5)).setCell ⟨w.heap.size, 1, none⟩ (.string (tokS s y2))).setCell ⟨w.heap.size, 2, none⟩ (.int .i64 y2.st)).setCell ⟨w.heap.size, 3, none⟩ (.int .i64 y2.p)).setCell ⟨w.heap.size, 4, none⟩ (.int .i64 y2.cl)).setCell ⟨w.heap.size, 5, none⟩ (.int .i64 y2.cs)) = W2 at HM6 hzz ⊢
        clear z0 z1 z2 z3 z4 z5 hfz HM5
        have HM7 := Aside0.mk (HM6.out.below (below_alloc (Below.refl _ _) (.cells #[.int .i64 9, .int .i64 8] 143)))
        have HX3 := Aside0.mk (expect_calls_p (W2.alloc (.cells #[.int .i64 9, .int .i64 8] 143)) b _ [mv, .bool q.hob] [] s (emitS y2) (.pointer (some ⟨b, 0, none⟩)) [9, 8] w3.heap.size 2 a HM7.out.px.lx HM7.out.px.pe HY2.out.emit ⟨_, hzz ▸ heap_alloc_new W2 _⟩ (by have := HM6.out.px.lex.lt; omega) (by simp) _ y3 HC3.out (tok_ne0 HY2.out.emit HC3.out))
        refine HX3.out.mono ?_
        rintro e w4 hP
        obtain ⟨rfl, hO⟩ := hP.fit hj
        clear HX3
        have HM8 := Aside0.mk (HM7.out.outs hO HY3.out.emit)
        have HM9 := Aside0.mk (HM8.out.put (.int .i64 j) (.string (tokS s y3)) (.int .i64 y3.st) (.int .i64 y3.p) (.int .i64 y3.cl) (.int .i64 y3.cs))
        obtain ⟨z0, z1, z2, z3, z4, z5, hfz⟩ := HM8.out.cells
        clear hO hP
        go_wp2_with fail
        generalize ((((((w4.setCell ⟨w.heap.size, 0, none⟩ (.int .i64 j)).setCell ⟨w.heap.size, 1, none⟩ (.string (tokS s y3))).setCell ⟨w.heap.size, 2, none⟩ (.int .i64 y3.st)).setCell ⟨w.heap.size, 3, none⟩ (.int .i64 y3.p)).setCell ⟨w.heap.size, 4, none⟩ (.int .i64 y3.cl)).setCell ⟨w.heap.size, 5, none⟩ (.int .i64 y3.cs)) = W3 at HM9 ⊢
        clear z0 z1 z2 z3 z4 z5 hfz HM8
        have HU2 := Aside0.mk (tokUnquote_calls j (tokS s y3) (.int .i64 y3.st) (.int .i64 y3.p) (.int .i64 y3.cl) (.int .i64 y3.cs) HQ3.out hsz3 W3 HM9.out.px.lx.tb.tbl HM9.out.px.pe.at_.es)
        rw [HO3.out] at HU2
        refine HU2.out.mono ?_
        rintro e w5 ⟨x, et, ep, rfl, hb⟩
        have HB2 := Aside0.mk (HM9.out.below hb).px.bel
        clear hb HU2 HM9
        go_wp2_with fail
        refine (errNew_calls _ _).mono ?_
        rintro e w9 ⟨g, rfl, hb⟩
        have HB := Aside0.mk (below_step HB2.out hb)
        clear hb
        go_wp2
        go_ret2
        exact ⟨_, _, rfl, HB.out⟩
      · go_enter Tryz.func89, Tryz.ntmps89
        go_wp2_with fail
        refine HX.out.mono ?_
        rintro e w1 hP
        obtain ⟨rfl, hO⟩ := hP.fit hk
        clear HX
        have HM1 := Aside0.mk (HMA.out.outs hO HY.out.emit)
        have HM2 := Aside0.mk (HM1.out.put (.int .i64 k) (.string (tokS s y)) (.int .i64 y.st) (.int .i64 y.p) (.int .i64 y.cl) (.int .i64 y.cs))
        obtain ⟨z0, z1, z2, z3, z4, z5, hfz⟩ := HM1.out.cells
        clear hO hP
        go_wp2_with fail
        generalize ((((((w1.setCell ⟨w.heap.size, 0, none⟩ (.int .i64 k)).setCell ⟨w.heap.size, 1, none⟩ (.string (tokS s y))).setCell ⟨w.heap.size, 2, none⟩ (.int .i64 y.st)).setCell ⟨w.heap.size, 3, none⟩ (.int .i64 y.p)).setCell ⟨w.heap.size, 4, none⟩ (.int .i64 y.cl)).setCell ⟨w.heap.size, 5, none⟩ (.int .i64 y.cs)) = W1 at HM2 ⊢
        clear z0 z1 z2 z3 z4 z5 hfz HM1
        have HU := Aside0.mk (tokUnquote_calls k (tokS s y) (.int .i64 y.st) (.int .i64 y.p) (.int .i64 y.cl) (.int .i64 y.cs) HQ1.out hsz1 W1 HM2.out.px.lx.tb.tbl HM2.out.px.pe.at_.es)
        rw [HO1.out] at HU
        refine HU.out.mono ?_
        rintro e w2 ⟨rfl, hb⟩
        have HM3 := Aside0.mk (HM2.out.below hb)
        clear hb HU HM2
        obtain ⟨z0, z1, z2, z3, z4, z5, hfz⟩ := HM3.out.cells
        have HM4 := Aside0.mk (HM3.out.below (below_alloc (Below.refl _ _) (.cells #[.int .i64 4, .int .i64 5, .int .i64 6, .int .i64 7] 143)))
        have HX2 := Aside0.mk (expect_calls_p (w2.alloc (.cells #[.int .i64 4, .int .i64 5, .int .i64 6, .int .i64 7] 143)) b _ [mv, .bool q.hob] [] s (emitS y) (.pointer (some ⟨b, 0, none⟩)) [4, 5, 6, 7] w2.heap.size 4 a HM4.out.px.lx HM4.out.px.pe HY.out.emit ⟨_, heap_alloc_new w2 _⟩ (by have := HM3.out.px.lex.lt; omega) (by simp) _ y2 HC2.out (tok_ne0 HY.out.emit HC2.out))
        clear z0 z1 z2 z3 z4 z5 hfz
        go_wp2_with fail
        refine HX2.out.mono ?_
        rintro e w3 hP
        obtain ⟨rfl, hO⟩ := hP.fit (show inK [4, 5, 6, 7] 6 = true from rfl)
        clear HX2
        have HM5 := Aside0.mk (HM4.out.outs hO HY2.out.emit)
        have HM6 := Aside0.mk (HM5.out.put (.int .i64 6) (.string (tokS s y2)) (.int .i64 y2.st) (.int .i64 y2.p) (.int .i64 y2.cl) (.int .i64 y2.cs))
        obtain ⟨z0, z1, z2, z3, z4, z5, hfz⟩ := HM5.out.cells
        have hzz : (((((((w3.setCell ⟨w.heap.size, 0, none⟩ (.int .i64 6)).setCell ⟨w.heap.size, 1, none⟩ (.string (tokS s y2))).setCell ⟨w.heap.size, 2, none⟩ (.int .i64 y2.st)).setCell ⟨w.heap.size, 3, none⟩ (.int .i64 y2.p)).setCell ⟨w.heap.size, 4, none⟩ (.int .i64 y2.cl)).setCell ⟨w.heap.size, 5, none⟩ (.int .i64 y2.cs))).heap.size = w3.heap.size := by simp [World.setCell]
        clear hO hP
        go_wp2_with fail
        generalize ((((((w3.setCell ⟨w.heap.size, 0, none⟩ (.int .i64 6)).setCell ⟨w.heap.size, 1, none⟩ (.string (tokS s y2))).setCell ⟨w.heap.size, 2, none⟩ (.int .i64 y2.st)).setCell ⟨w.heap.size, 3, none⟩ (.int .i64 y2.p)).setCell ⟨w.heap.size, 4, none⟩ (.int .i64 y2.cl)).setCell ⟨w.heap.size, 5, none⟩ (.int .i64 y2.cs)) = W2 at HM6 hzz ⊢
        clear z0 z1 z2 z3 z4 z5 hfz HM5
        have HM7 := Aside0.mk (HM6.out.below (below_alloc (Below.refl _ _) (.cells #[.int .i64 9, .int .i64 8] 143)))
        have HX3 := Aside0.mk (expect_calls_p (W2.alloc (.cells #[.int .i64 9, .int .i64 8] 143)) b _ [mv, .bool q.hob] [] s (emitS y2) (.pointer (some ⟨b, 0, none⟩)) [9, 8] w3.heap.size 2 a HM7.out.px.lx HM7.out.px.pe HY2.out.emit ⟨_, hzz ▸ heap_alloc_new W2 _⟩ (by have := HM6.out.px.lex.lt; omega) (by simp) _ y3 HC3.out (tok_ne0 HY2.out.emit HC3.out))
        refine HX3.out.mono ?_
        rintro e w4 hP
        obtain ⟨rfl, hO⟩ := hP.fit hj
        clear HX3
        have HM8 := Aside0.mk (HM7.out.outs hO HY3.out.emit)
        have HM9 := Aside0.mk (HM8.out.put (.int .i64 j) (.string (tokS s y3)) (.int .i64 y3.st) (.int .i64 y3.p) (.int .i64 y3.cl) (.int .i64 y3.cs))
        obtain ⟨z0, z1, z2, z3, z4, z5, hfz⟩ := HM8.out.cells
        clear hO hP
        go_wp2_with fail
        generalize ((((((w4.setCell ⟨w.heap.size, 0, none⟩ (.int .i64 j)).setCell ⟨w.heap.size, 1, none⟩ (.string (tokS s y3))).setCell ⟨w.heap.size, 2, none⟩ (.int .i64 y3.st)).setCell ⟨w.heap.size, 3, none⟩ (.int .i64 y3.p)).setCell ⟨w.heap.size, 4, none⟩ (.int .i64 y3.cl)).setCell ⟨w.heap.size, 5, none⟩ (.int .i64 y3.cs)) = W3 at HM9 ⊢
        clear z0 z1 z2 z3 z4 z5 hfz HM8
        have HU2 := Aside0.mk (tokUnquote_calls j (tokS s y3) (.int .i64 y3.st) (.int .i64 y3.p) (.int .i64 y3.cl) (.int .i64 y3.cs) HQ3.out hsz3 W3 HM9.out.px.lx.tb.tbl HM9.out.px.pe.at_.es)
        rw [HO3.out] at HU2
        refine HU2.out.mono ?_
        rintro e w5 ⟨x, et, ep, rfl, hb⟩
        have HB2 := Aside0.mk (HM9.out.below hb).px.bel
        clear hb HU2 HM9
        go_wp2_with fail
        refine (errNew_calls _ _).mono ?_
        rintro e w9 ⟨g, rfl, hb⟩
        have HB := Aside0.mk (below_step HB2.out hb)
        clear hb
        go_wp2
        go_ret2
        exact ⟨_, _, rfl, HB.out⟩
      · go_enter Tryz.func89, Tryz.ntmps89
        go_wp2_with fail
        refine HX.out.mono ?_
        rintro e w1 hP
        obtain ⟨rfl, hO⟩ := hP.fit hk
        clear HX
        have HM1 := Aside0.mk (HMA.out.outs hO HY.out.emit)
        have HM2 := Aside0.mk (HM1.out.put (.int .i64 k) (.string (tokS s y)) (.int .i64 y.st) (.int .i64 y.p) (.int .i64 y.cl) (.int .i64 y.cs))
        obtain ⟨z0, z1, z2, z3, z4, z5, hfz⟩ := HM1.out.cells
        clear hO hP
        go_wp2_with fail
        generalize ((((((w1.setCell ⟨w.heap.size, 0, none⟩ (.int .i64 k)).setCell ⟨w.heap.size, 1, none⟩ (.string (tokS s y))).setCell ⟨w.heap.size, 2, none⟩ (.int .i64 y.st)).setCell ⟨w.heap.size, 3, none⟩ (.int .i64 y.p)).setCell ⟨w.heap.size, 4, none⟩ (.int .i64 y.cl)).setCell ⟨w.heap.size, 5, none⟩ (.int .i64 y.cs)) = W1 at HM2 ⊢
        clear z0 z1 z2 z3 z4 z5 hfz HM1
        have HU := Aside0.mk (tokUnquote_calls k (tokS s y) (.int .i64 y.st) (.int .i64 y.p) (.int .i64 y.cl) (.int .i64 y.cs) HQ1.out hsz1 W1 HM2.out.px.lx.tb.tbl HM2.out.px.pe.at_.es)
        rw [HO1.out] at HU
        refine HU.out.mono ?_
        rintro e w2 ⟨rfl, hb⟩
        have HM3 := Aside0.mk (HM2.out.below hb)
        clear hb HU HM2
        obtain ⟨z0, z1, z2, z3, z4, z5, hfz⟩ := HM3.out.cells
        have HM4 := Aside0.mk (HM3.out.below (below_alloc (Below.refl _ _) (.cells #[.int .i64 4, .int .i64 5, .int .i64 6, .int .i64 7] 143)))
        have HX2 := Aside0.mk (expect_calls_p (w2.alloc (.cells #[.int .i64 4, .int .i64 5, .int .i64 6, .int .i64 7] 143)) b _ [mv, .bool q.hob] [] s (emitS y) (.pointer (some ⟨b, 0, none⟩)) [4, 5, 6, 7] w2.heap.size 4 a HM4.out.px.lx HM4.out.px.pe HY.out.emit ⟨_, heap_alloc_new w2 _⟩ (by have := HM3.out.px.lex.lt; omega) (by simp) _ y2 HC2.out (tok_ne0 HY.out.emit HC2.out))
        clear z0 z1 z2 z3 z4 z5 hfz
        go_wp2_with fail
        refine HX2.out.mono ?_
        rintro e w3 hP
        obtain ⟨rfl, hO⟩ := hP.fit (show inK [4, 5, 6, 7] 7 = true from rfl)
        clear HX2
        have HM5 := Aside0.mk (HM4.out.outs hO HY2.out.emit)
        have HM6 := Aside0.mk (HM5.out.put (.int .i64 7) (.string (tokS s y2)) (.int .i64 y2.st) (.int .i64 y2.p) (.int .i64 y2.cl) (.int .i64 y2.cs))
        obtain ⟨z0, z1, z2, z3, z4, z5, hfz⟩ := HM5.out.cells
        have hzz : (((((((w3.setCell ⟨w.heap.size, 0, none⟩ (.int .i64 7)).setCell ⟨w.heap.size, 1, none⟩ (.string (tokS s y2))).setCell ⟨w.heap.size, 2, none⟩ (.int .i64 y2.st)).setCell ⟨w.heap.size, 3, none⟩ (.int .i64 y2.p)).setCell ⟨w.heap.size, 4, none⟩ (.int .i64 y2.cl)).setCell ⟨w.heap.size, 5, none⟩ (.int .i64 y2.cs))).heap.size = w3.heap.size := by simp [World.setCell]
        clear hO hP
        go_wp2_with fail
        generalize ((((((w3.setCell ⟨w.heap.size, 0, none⟩ (.int .i64 7)).setCell ⟨w.heap.size, 1, none⟩ (.string (tokS s y2))).setCell ⟨w.heap.size, 2, none⟩ (.int .i64 y2.st)).setCell ⟨w.heap.size, 3, none⟩ (.int .i64 y2.p)).setCell ⟨w.heap.size, 4, none⟩ (.int .i64 y2.cl)).setCell ⟨w.heap.size, 5, none⟩ (.int .i64 y2.cs)) = W2 at HM6 hzz ⊢
        clear z0 z1 z2 z3 z4 z5 hfz HM5
        have HM7 := Aside0.mk (HM6.out.below (below_alloc (Below.refl _ _) (.cells #[.int .i64 9, .int .i64 8] 143)))
        have HX3 := Aside0.mk (expect_calls_p (W2.alloc (.cells #[.int .i64 9, .int .i64 8] 143)) b _ [mv, .bool q.hob] [] s (emitS y2) (.pointer (some ⟨b, 0, none⟩)) [9, 8] w3.heap.size 2 a HM7.out.px.lx HM7.out.px.pe HY2.out.emit ⟨_, hzz ▸ heap_alloc_new W2 _⟩ (by have := HM6.out.px.lex.lt; omega) (by simp) _ y3 HC3.out (tok_ne0 HY2.out.emit HC3.out))
        refine HX3.out.mono ?_
        rintro e w4 hP
        obtain ⟨rfl, hO⟩ := hP.fit hj
        clear HX3
        have HM8 := Aside0.mk (HM7.out.outs hO HY3.out.emit)
        have HM9 := Aside0.mk (HM8.out.put (.int .i64 j) (.string (tokS s y3)) (.int .i64 y3.st) (.int .i64 y3.p) (.int .i64 y3.cl) (.int .i64 y3.cs))
        obtain ⟨z0, z1, z2, z3, z4, z5, hfz⟩ := HM8.out.cells
        clear hO hP
        go_wp2_with fail
        generalize ((((((w4.setCell ⟨w.heap.size, 0, none⟩ (.int .i64 j)).setCell ⟨w.heap.size, 1, none⟩ (.string (tokS s y3))).setCell ⟨w.heap.size, 2, none⟩ (.int .i64 y3.st)).setCell ⟨w.heap.size, 3, none⟩ (.int .i64 y3.p)).setCell ⟨w.heap.size, 4, none⟩ (.int .i64 y3.cl)).setCell ⟨w.heap.size, 5, none⟩ (.int .i64 y3.cs)) = W3 at HM9 ⊢
        clear z0 z1 z2 z3 z4 z5 hfz HM8
        have HU2 := Aside0.mk (tokUnquote_calls j (tokS s y3) (.int .i64 y3.st) (.int .i64 y3.p) (.int .i64 y3.cl) (.int .i64 y3.cs) HQ3.out hsz3 W3 HM9.out.px.lx.tb.tbl HM9.out.px.pe.at_.es)
        rw [HO3.out] at HU2
        refine HU2.out.mono ?_
        rintro e w5 ⟨x, et, ep, rfl, hb⟩
        have HB2 := Aside0.mk (HM9.out.below hb).px.bel
        clear hb HU2 HM9
        go_wp2_with fail
        refine (errNew_calls _ _).mono ?_
        rintro e w9 ⟨g, rfl, hb⟩
        have HB := Aside0.mk (below_step HB2.out hb)
        clear hb
        go_wp2
        go_ret2
        exact ⟨_, _, rfl, HB.out⟩
    | some z =>
      simp only at hS0
      rw [hS0]
      clear hS0
      rcases ho4 with rfl | rfl | rfl | rfl
      · go_enter Tryz.func89, Tryz.ntmps89
        go_wp2_with fail
        refine HX.out.mono ?_
        rintro e w1 hP
        obtain ⟨rfl, hO⟩ := hP.fit hk
        clear HX
        have HM1 := Aside0.mk (HMA.out.outs hO HY.out.emit)
        have HM2 := Aside0.mk (HM1.out.put (.int .i64 k) (.string (tokS s y)) (.int .i64 y.st) (.int .i64 y.p) (.int .i64 y.cl) (.int .i64 y.cs))
        obtain ⟨z0, z1, z2, z3, z4, z5, hfz⟩ := HM1.out.cells
        clear hO hP
        go_wp2_with fail
        generalize ((((((w1.setCell ⟨w.heap.size, 0, none⟩ (.int .i64 k)).setCell ⟨w.heap.size, 1, none⟩ (.string (tokS s y))).setCell ⟨w.heap.size, 2, none⟩ (.int .i64 y.st)).setCell ⟨w.heap.size, 3, none⟩ (.int .i64 y.p)).setCell ⟨w.heap.size, 4, none⟩ (.int .i64 y.cl)).setCell ⟨w.heap.size, 5, none⟩ (.int .i64 y.cs)) = W1 at HM2 ⊢
        clear z0 z1 z2 z3 z4 z5 hfz HM1
        have HU := Aside0.mk (tokUnquote_calls k (tokS s y) (.int .i64 y.st) (.int .i64 y.p) (.int .i64 y.cl) (.int .i64 y.cs) HQ1.out hsz1 W1 HM2.out.px.lx.tb.tbl HM2.out.px.pe.at_.es)
        rw [HO1.out] at HU
        refine HU.out.mono ?_
        rintro e w2 ⟨rfl, hb⟩
        have HM3 := Aside0.mk (HM2.out.below hb)
        clear hb HU HM2
        obtain ⟨z0, z1, z2, z3, z4, z5, hfz⟩ := HM3.out.cells
        have HM4 := Aside0.mk (HM3.out.below (below_alloc (Below.refl _ _) (.cells #[.int .i64 4, .int .i64 5, .int .i64 6, .int .i64 7] 143)))
        have HX2 := Aside0.mk (expect_calls_p (w2.alloc (.cells #[.int .i64 4, .int .i64 5, .int .i64 6, .int .i64 7] 143)) b _ [mv, .bool q.hob] [] s (emitS y) (.pointer (some ⟨b, 0, none⟩)) [4, 5, 6, 7] w2.heap.size 4 a HM4.out.px.lx HM4.out.px.pe HY.out.emit ⟨_, heap_alloc_new w2 _⟩ (by have := HM3.out.px.lex.lt; omega) (by simp) _ y2 HC2.out (tok_ne0 HY.out.emit HC2.out))
        clear z0 z1 z2 z3 z4 z5 hfz
        go_wp2_with fail
        refine HX2.out.mono ?_
        rintro e w3 hP
        obtain ⟨rfl, hO⟩ := hP.fit (show inK [4, 5, 6, 7] 4 = true from rfl)
        clear HX2
        have HM5 := Aside0.mk (HM4.out.outs hO HY2.out.emit)
        have HM6 := Aside0.mk (HM5.out.put (.int .i64 4) (.string (tokS s y2)) (.int .i64 y2.st) (.int .i64 y2.p) (.int .i64 y2.cl) (.int .i64 y2.cs))
        obtain ⟨z0, z1, z2, z3, z4, z5, hfz⟩ := HM5.out.cells
        have hzz : (((((((w3.setCell ⟨w.heap.size, 0, none⟩ (.int .i64 4)).setCell ⟨w.heap.size, 1, none⟩ (.string (tokS s y2))).setCell ⟨w.heap.size, 2, none⟩ (.int .i64 y2.st)).setCell ⟨w.heap.size, 3, none⟩ (.int .i64 y2.p)).setCell ⟨w.heap.size, 4, none⟩ (.int .i64 y2.cl)).setCell ⟨w.heap.size, 5, none⟩ (.int .i64 y2.cs))).heap.size = w3.heap.size := by simp [World.setCell]
        clear hO hP
        go_wp2_with fail
        generalize ((((((w3.setCell ⟨w.heap.size, 0, none⟩ (.int .i64 4)).setCell ⟨w.heap.size, 1, none⟩ (.string (tokS s y2))).setCell ⟨w.heap.size, 2, none⟩ (.int .i64 y2.st)).setCell ⟨w.heap.size, 3, none⟩ (.int .i64 y2.p)).setCell ⟨w.heap.size, 4, none⟩ (.int .i64 y2.cl)).setCell ⟨w.heap.size, 5, none⟩ (.int .i64 y2.cs)) = W2 at HM6 hzz ⊢
        clear z0 z1 z2 z3 z4 z5 hfz HM5
        have HM7 := Aside0.mk (HM6.out.below (below_alloc (Below.refl _ _) (.cells #[.int .i64 9, .int .i64 8] 143)))
        have HX3 := Aside0.mk (expect_calls_p (W2.alloc (.cells #[.int .i64 9, .int .i64 8] 143)) b _ [mv, .bool q.hob] [] s (emitS y2) (.pointer (some ⟨b, 0, none⟩)) [9, 8] w3.heap.size 2 a HM7.out.px.lx HM7.out.px.pe HY2.out.emit ⟨_, hzz ▸ heap_alloc_new W2 _⟩ (by have := HM6.out.px.lex.lt; omega) (by simp) _ y3 HC3.out (tok_ne0 HY2.out.emit HC3.out))
        refine HX3.out.mono ?_
        rintro e w4 hP
        obtain ⟨rfl, hO⟩ := hP.fit hj
        clear HX3
        have HM8 := Aside0.mk (HM7.out.outs hO HY3.out.emit)
        have HM9 := Aside0.mk (HM8.out.put (.int .i64 j) (.string (tokS s y3)) (.int .i64 y3.st) (.int .i64 y3.p) (.int .i64 y3.cl) (.int .i64 y3.cs))
        obtain ⟨z0, z1, z2, z3, z4, z5, hfz⟩ := HM8.out.cells
        clear hO hP
        go_wp2_with fail
        generalize ((((((w4.setCell ⟨w.heap.size, 0, none⟩ (.int .i64 j)).setCell ⟨w.heap.size, 1, none⟩ (.string (tokS s y3))).setCell ⟨w.heap.size, 2, none⟩ (.int .i64 y3.st)).setCell ⟨w.heap.size, 3, none⟩ (.int .i64 y3.p)).setCell ⟨w.heap.size, 4, none⟩ (.int .i64 y3.cl)).setCell ⟨w.heap.size, 5, none⟩ (.int .i64 y3.cs)) = W3 at HM9 ⊢
        clear z0 z1 z2 z3 z4 z5 hfz HM8
        have HU2 := Aside0.mk (tokUnquote_calls j (tokS s y3) (.int .i64 y3.st) (.int .i64 y3.p) (.int .i64 y3.cl) (.int .i64 y3.cs) HQ3.out hsz3 W3 HM9.out.px.lx.tb.tbl HM9.out.px.pe.at_.es)
        rw [HO3.out] at HU2
        refine HU2.out.mono ?_
        rintro e w5 ⟨rfl, hb⟩
        have HM10 := Aside0.mk (HM9.out.below hb)
        clear hb HU2 HM9
        go_wp2_with fail
        refine (newMatcherP_calls 0 n z _).mono ?_
        rintro e w6 ⟨g, rfl, hg, hgh, hb⟩
        have HM11 := Aside0.mk (HM10.out.below hb)
        have GE : Aside0 (w0.heap.size ≤ g) := ⟨Nat.le_trans HM10.out.px.bel.size hg⟩
        have GG := Aside0.mk hgh
        have hmv := HM11.out.px.cmv
        have hfr := HM11.out.px.lex.free 0
        have hbl := HM11.out.px.lex.lt
        clear hb hg hgh HM10
        go_wp2_with (at_builtin; refine Kd.R_append (ptrK 82 k25) (w0 := w0) w0.heap.size rfl (.tmp 83) (.tmp 85) 63 48 (.pointer none) 8 rfl Tryz.underlying63 infoPM rfl (by decide) (by omega) mv q.ms ⟨0, n, z⟩ [.pointer (some ⟨g, 0, none⟩)] (fun _ => True) (fun k => k = g) rfl (by first | (go_simp; done) | (go_simp; rfl)) ?aP ?aK (fun _ _ => trivial) HM11.out.px.out HM11.out.px.bel ?aS ?aL ?_; (case aP => exact ⟨g, _, rfl, rfl, GE.out, GG.out, k25_mkM _ _ _ _⟩); (case aK => rintro k rfl; exact ⟨trivial, Kd.R_ne HM11.out.px.out GG.out (by decide)⟩); (case aS => exact HM11.out.px.bel.size); (case aL => have := HML.out; omega); intro v1 w7 ho hb hg2 hat; obtain ⟨A1, cp1, e1⟩ := Kd.R_slice ho; subst e1; have HPA := Aside0.mk (HM11.out.px.appended ho hb hg2); rw [List.length_append, List.length_singleton] at HPA; obtain ⟨c7, f7⟩ := px_cell0 HM11.out.px hg2; clear ho hb hg2 hat hmv hfr)
        go_ret2
        exact ⟨rfl, _, HPA.out⟩
      · go_enter Tryz.func89, Tryz.ntmps89
        go_wp2_with fail
        refine HX.out.mono ?_
        rintro e w1 hP
        obtain ⟨rfl, hO⟩ := hP.fit hk
        clear HX
        have HM1 := Aside0.mk (HMA.out.outs hO HY.out.emit)
        have HM2 := Aside0.mk (HM1.out.put (.int .i64 k) (.string (tokS s y)) (.int .i64 y.st) (.int .i64 y.p) (.int .i64 y.cl) (.int .i64 y.cs))
        obtain ⟨z0, z1, z2, z3, z4, z5, hfz⟩ := HM1.out.cells
        clear hO hP
        go_wp2_with fail
        generalize ((((((w1.setCell ⟨w.heap.size, 0, none⟩ (.int .i64 k)).setCell ⟨w.heap.size, 1, none⟩ (.string (tokS s y))).setCell ⟨w.heap.size, 2, none⟩ (.int .i64 y.st)).setCell ⟨w.heap.size, 3, none⟩ (.int .i64 y.p)).setCell ⟨w.heap.size, 4, none⟩ (.int .i64 y.cl)).setCell ⟨w.heap.size, 5, none⟩ (.int .i64 y.cs)) = W1 at HM2 ⊢
        clear z0 z1 z2 z3 z4 z5 hfz HM1
        have HU := Aside0.mk (tokUnquote_calls k (tokS s y) (.int .i64 y.st) (.int .i64 y.p) (.int .i64 y.cl) (.int .i64 y.cs) HQ1.out hsz1 W1 HM2.out.px.lx.tb.tbl HM2.out.px.pe.at_.es)
        rw [HO1.out] at HU
        refine HU.out.mono ?_
        rintro e w2 ⟨rfl, hb⟩
        have HM3 := Aside0.mk (HM2.out.below hb)
        clear hb HU HM2
        obtain ⟨z0, z1, z2, z3, z4, z5, hfz⟩ := HM3.out.cells
        have HM4 := Aside0.mk (HM3.out.below (below_alloc (Below.refl _ _) (.cells #[.int .i64 4, .int .i64 5, .int .i64 6, .int .i64 7] 143)))
        have HX2 := Aside0.mk (expect_calls_p (w2.alloc (.cells #[.int .i64 4, .int .i64 5, .int .i64 6, .int .i64 7] 143)) b _ [mv, .bool q.hob] [] s (emitS y) (.pointer (some ⟨b, 0, none⟩)) [4, 5, 6, 7] w2.heap.size 4 a HM4.out.px.lx HM4.out.px.pe HY.out.emit ⟨_, heap_alloc_new w2 _⟩ (by have := HM3.out.px.lex.lt; omega) (by simp) _ y2 HC2.out (tok_ne0 HY.out.emit HC2.out))
        clear z0 z1 z2 z3 z4 z5 hfz
        go_wp2_with fail
        refine HX2.out.mono ?_
        rintro e w3 hP
        obtain ⟨rfl, hO⟩ := hP.fit (show inK [4, 5, 6, 7] 5 = true from rfl)
        clear HX2
        have HM5 := Aside0.mk (HM4.out.outs hO HY2.out.emit)
        have HM6 := Aside0.mk (HM5.out.put (.int .i64 5) (.string (tokS s y2)) (.int .i64 y2.st) (.int .i64 y2.p) (.int .i64 y2.cl) (.int .i64 y2.cs))
        obtain ⟨z0, z1, z2, z3, z4, z5, hfz⟩ := HM5.out.cells
        have hzz : (((((((w3.setCell ⟨w.heap.size, 0, none⟩ (.int .i64 5)).setCell ⟨w.heap.size, 1, none⟩ (.string (tokS s y2))).setCell ⟨w.heap.size, 2, none⟩ (.int .i64 y2.st)).setCell ⟨w.heap.size, 3, none⟩ (.int .i64 y2.p)).setCell ⟨w.heap.size, 4, none⟩ (.int .i64 y2.cl)).setCell ⟨w.heap.size, 5, none⟩ (.int .i64 y2.cs))).heap.size = w3.heap.size := by simp [World.setCell]
        clear hO hP
        go_wp2_with fail
        generalize ((((((w3.setCell ⟨w.heap.size, 0, none⟩ (.int .i64 5)).setCell ⟨w.heap.size, 1, none⟩ (.string (tokS s y2))).setCell ⟨w.heap.size, 2, none⟩ (.int .i64 y2.st)).setCell ⟨w.heap.size, 3, none⟩ (.int .i64 y2.p)).setCell ⟨w.heap.size, 4, none⟩ (.int .i64 y2.cl)).setCell ⟨w.heap.size, 5, none⟩ (.int .i64 y2.cs)) = W2 at HM6 hzz ⊢
        clear z0 z1 z2 z3 z4 z5 hfz HM5
        have HM7 := Aside0.mk (HM6.out.below (below_alloc (Below.refl _ _) (.cells #[.int .i64 9, .int .i64 8] 143)))
        have HX3 := Aside0.mk (expect_calls_p (W2.alloc (.cells #[.int .i64 9, .int .i64 8] 143)) b _ [mv, .bool q.hob] [] s (emitS y2) (.pointer (some ⟨b, 0, none⟩)) [9, 8] w3.heap.size 2 a HM7.out.px.lx HM7.out.px.pe HY2.out.emit ⟨_, hzz ▸ heap_alloc_new W2 _⟩ (by have := HM6.out.px.lex.lt; omega) (by simp) _ y3 HC3.out (tok_ne0 HY2.out.emit HC3.out))
        refine HX3.out.mono ?_
        rintro e w4 hP
        obtain ⟨rfl, hO⟩ := hP.fit hj
        clear HX3
        have HM8 := Aside0.mk (HM7.out.outs hO HY3.out.emit)
        have HM9 := Aside0.mk (HM8.out.put (.int .i64 j) (.string (tokS s y3)) (.int .i64 y3.st) (.int .i64 y3.p) (.int .i64 y3.cl) (.int .i64 y3.cs))
        obtain ⟨z0, z1, z2, z3, z4, z5, hfz⟩ := HM8.out.cells
        clear hO hP
        go_wp2_with fail
        generalize ((((((w4.setCell ⟨w.heap.size, 0, none⟩ (.int .i64 j)).setCell ⟨w.heap.size, 1, none⟩ (.string (tokS s y3))).setCell ⟨w.heap.size, 2, none⟩ (.int .i64 y3.st)).setCell ⟨w.heap.size, 3, none⟩ (.int .i64 y3.p)).setCell ⟨w.heap.size, 4, none⟩ (.int .i64 y3.cl)).setCell ⟨w.heap.size, 5, none⟩ (.int .i64 y3.cs)) = W3 at HM9 ⊢
        clear z0 z1 z2 z3 z4 z5 hfz HM8
        have HU2 := Aside0.mk (tokUnquote_calls j (tokS s y3) (.int .i64 y3.st) (.int .i64 y3.p) (.int .i64 y3.cl) (.int .i64 y3.cs) HQ3.out hsz3 W3 HM9.out.px.lx.tb.tbl HM9.out.px.pe.at_.es)
        rw [HO3.out] at HU2
        refine HU2.out.mono ?_
        rintro e w5 ⟨rfl, hb⟩
        have HM10 := Aside0.mk (HM9.out.below hb)
        clear hb HU2 HM9
        go_wp2_with fail
        refine (newMatcherP_calls 1 n z _).mono ?_
        rintro e w6 ⟨g, rfl, hg, hgh, hb⟩
        have HM11 := Aside0.mk (HM10.out.below hb)
        have GE : Aside0 (w0.heap.size ≤ g) := ⟨Nat.le_trans HM10.out.px.bel.size hg⟩
        have GG := Aside0.mk hgh
        have hmv := HM11.out.px.cmv
        have hfr := HM11.out.px.lex.free 0
        have hbl := HM11.out.px.lex.lt
        clear hb hg hgh HM10
        go_wp2_with (at_builtin; refine Kd.R_append (ptrK 82 k25) (w0 := w0) w0.heap.size rfl (.tmp 83) (.tmp 85) 63 48 (.pointer none) 8 rfl Tryz.underlying63 infoPM rfl (by decide) (by omega) mv q.ms ⟨1, n, z⟩ [.pointer (some ⟨g, 0, none⟩)] (fun _ => True) (fun k => k = g) rfl (by first | (go_simp; done) | (go_simp; rfl)) ?aP ?aK (fun _ _ => trivial) HM11.out.px.out HM11.out.px.bel ?aS ?aL ?_; (case aP => exact ⟨g, _, rfl, rfl, GE.out, GG.out, k25_mkM _ _ _ _⟩); (case aK => rintro k rfl; exact ⟨trivial, Kd.R_ne HM11.out.px.out GG.out (by decide)⟩); (case aS => exact HM11.out.px.bel.size); (case aL => have := HML.out; omega); intro v1 w7 ho hb hg2 hat; obtain ⟨A1, cp1, e1⟩ := Kd.R_slice ho; subst e1; have HPA := Aside0.mk (HM11.out.px.appended ho hb hg2); rw [List.length_append, List.length_singleton] at HPA; obtain ⟨c7, f7⟩ := px_cell0 HM11.out.px hg2; clear ho hb hg2 hat hmv hfr)
        go_ret2
        exact ⟨rfl, _, HPA.out⟩
      · go_enter Tryz.func89, Tryz.ntmps89
        go_wp2_with fail
        refine HX.out.mono ?_
        rintro e w1 hP
        obtain ⟨rfl, hO⟩ := hP.fit hk
        clear HX
        have HM1 := Aside0.mk (HMA.out.outs hO HY.out.emit)
        have HM2 := Aside0.mk (HM1.out.put (.int .i64 k) (.string (tokS s y)) (.int .i64 y.st) (.int .i64 y.p) (.int .i64 y.cl) (.int .i64 y.cs))
        obtain ⟨z0, z1, z2, z3, z4, z5, hfz⟩ := HM1.out.cells
        clear hO hP
        go_wp2_with fail
        generalize ((((((w1.setCell ⟨w.heap.size, 0, none⟩ (.int .i64 k)).setCell ⟨w.heap.size, 1, none⟩ (.string (tokS s y))).setCell ⟨w.heap.size, 2, none⟩ (.int .i64 y.st)).setCell ⟨w.heap.size, 3, none⟩ (.int .i64 y.p)).setCell ⟨w.heap.size, 4, none⟩ (.int .i64 y.cl)).setCell ⟨w.heap.size, 5, none⟩ (.int .i64 y.cs)) = W1 at HM2 ⊢
        clear z0 z1 z2 z3 z4 z5 hfz HM1
        have HU := Aside0.mk (tokUnquote_calls k (tokS s y) (.int .i64 y.st) (.int .i64 y.p) (.int .i64 y.cl) (.int .i64 y.cs) HQ1.out hsz1 W1 HM2.out.px.lx.tb.tbl HM2.out.px.pe.at_.es)
        rw [HO1.out] at HU
        refine HU.out.mono ?_
        rintro e w2 ⟨rfl, hb⟩
        have HM3 := Aside0.mk (HM2.out.below hb)
        clear hb HU HM2
        obtain ⟨z0, z1, z2, z3, z4, z5, hfz⟩ := HM3.out.cells
        have HM4 := Aside0.mk (HM3.out.below (below_alloc (Below.refl _ _) (.cells #[.int .i64 4, .int .i64 5, .int .i64 6, .int .i64 7] 143)))
        have HX2 := Aside0.mk (expect_calls_p (w2.alloc (.cells #[.int .i64 4, .int .i64 5, .int .i64 6, .int .i64 7] 143)) b _ [mv, .bool q.hob] [] s (emitS y) (.pointer (some ⟨b, 0, none⟩)) [4, 5, 6, 7] w2.heap.size 4 a HM4.out.px.lx HM4.out.px.pe HY.out.emit ⟨_, heap_alloc_new w2 _⟩ (by have := HM3.out.px.lex.lt; omega) (by simp) _ y2 HC2.out (tok_ne0 HY.out.emit HC2.out))
        clear z0 z1 z2 z3 z4 z5 hfz
        go_wp2_with fail
        refine HX2.out.mono ?_
        rintro e w3 hP
        obtain ⟨rfl, hO⟩ := hP.fit (show inK [4, 5, 6, 7] 6 = true from rfl)
        clear HX2
        have HM5 := Aside0.mk (HM4.out.outs hO HY2.out.emit)
        have HM6 := Aside0.mk (HM5.out.put (.int .i64 6) (.string (tokS s y2)) (.int .i64 y2.st) (.int .i64 y2.p) (.int .i64 y2.cl) (.int .i64 y2.cs))
        obtain ⟨z0, z1, z2, z3, z4, z5, hfz⟩ := HM5.out.cells
        have hzz : (((((((w3.setCell ⟨w.heap.size, 0, none⟩ (.int .i64 6)).setCell ⟨w.heap.size, 1, none⟩ (.string (tokS s y2))).setCell ⟨w.heap.size, 2, none⟩ (.int .i64 y2.st)).setCell ⟨w.heap.size, 3, none⟩ (.int .i64 y2.p)).setCell ⟨w.heap.size, 4, none⟩ (.int .i64 y2.cl)).setCell ⟨w.heap.size, 5, none⟩ (.int .i64 y2.cs))).heap.size = w3.heap.size := by simp [World.setCell]
        clear hO hP
        go_wp2_with fail
        generalize ((((((w3.setCell ⟨w.heap.size, 0, none⟩ (.int .i64 6)).setCell ⟨w.heap.size, 1, none⟩ (.string (tokS s y2))).setCell ⟨w.heap.size, 2, none⟩ (.int .i64 y2.st)).setCell ⟨w.heap.size, 3, none⟩ (.int .i64 y2.p)).setCell ⟨w.heap.size, 4, none⟩ (.int .i64 y2.cl)).setCell ⟨w.heap.size, 5, none⟩ (.int .i64 y2.cs)) = W2 at HM6 hzz ⊢
        clear z0 z1 z2 z3 z4 z5 hfz HM5
        have HM7 := Aside0.mk (HM6.out.below (below_alloc (Below.refl _ _) (.cells #[.int .i64 9, .int .i64 8] 143)))
        have HX3 := Aside0.mk (expect_calls_p (W2.alloc (.cells #[.int .i64 9, .int .i64 8] 143)) b _ [mv, .bool q.hob] [] s (emitS y2) (.pointer (some ⟨b, 0, none⟩)) [9, 8] w3.heap.size 2 a HM7.out.px.lx HM7.out.px.pe HY2.out.emit ⟨_, hzz ▸ heap_alloc_new W2 _⟩ (by have := HM6.out.px.lex.lt; omega) (by simp) _ y3 HC3.out (tok_ne0 HY2.out.emit HC3.out))
        refine HX3.out.mono ?_
        rintro e w4 hP
        obtain ⟨rfl, hO⟩ := hP.fit hj
        clear HX3
        have HM8 := Aside0.mk (HM7.out.outs hO HY3.out.emit)
        have HM9 := Aside0.mk (HM8.out.put (.int .i64 j) (.string (tokS s y3)) (.int .i64 y3.st) (.int .i64 y3.p) (.int .i64 y3.cl) (.int .i64 y3.cs))
        obtain ⟨z0, z1, z2, z3, z4, z5, hfz⟩ := HM8.out.cells
        clear hO hP
        go_wp2_with fail
        generalize ((((((w4.setCell ⟨w.heap.size, 0, none⟩ (.int .i64 j)).setCell ⟨w.heap.size, 1, none⟩ (.string (tokS s y3))).setCell ⟨w.heap.size, 2, none⟩ (.int .i64 y3.st)).setCell ⟨w.heap.size, 3, none⟩ (.int .i64 y3.p)).setCell ⟨w.heap.size, 4, none⟩ (.int .i64 y3.cl)).setCell ⟨w.heap.size, 5, none⟩ (.int .i64 y3.cs)) = W3 at HM9 ⊢
        clear z0 z1 z2 z3 z4 z5 hfz HM8
        have HU2 := Aside0.mk (tokUnquote_calls j (tokS s y3) (.int .i64 y3.st) (.int .i64 y3.p) (.int .i64 y3.cl) (.int .i64 y3.cs) HQ3.out hsz3 W3 HM9.out.px.lx.tb.tbl HM9.out.px.pe.at_.es)
        rw [HO3.out] at HU2
        refine HU2.out.mono ?_
        rintro e w5 ⟨rfl, hb⟩
        have HM10 := Aside0.mk (HM9.out.below hb)
        clear hb HU2 HM9
        go_wp2_with fail
        refine (newMatcherP_calls 2 n z _).mono ?_
        rintro e w6 ⟨g, rfl, hg, hgh, hb⟩
        have HM11 := Aside0.mk (HM10.out.below hb)
        have GE : Aside0 (w0.heap.size ≤ g) := ⟨Nat.le_trans HM10.out.px.bel.size hg⟩
        have GG := Aside0.mk hgh
        have hmv := HM11.out.px.cmv
        have hfr := HM11.out.px.lex.free 0
        have hbl := HM11.out.px.lex.lt
        clear hb hg hgh HM10
        go_wp2_with (at_builtin; refine Kd.R_append (ptrK 82 k25) (w0 := w0) w0.heap.size rfl (.tmp 83) (.tmp 85) 63 48 (.pointer none) 8 rfl Tryz.underlying63 infoPM rfl (by decide) (by omega) mv q.ms ⟨2, n, z⟩ [.pointer (some ⟨g, 0, none⟩)] (fun _ => True) (fun k => k = g) rfl (by first | (go_simp; done) | (go_simp; rfl)) ?aP ?aK (fun _ _ => trivial) HM11.out.px.out HM11.out.px.bel ?aS ?aL ?_; (case aP => exact ⟨g, _, rfl, rfl, GE.out, GG.out, k25_mkM _ _ _ _⟩); (case aK => rintro k rfl; exact ⟨trivial, Kd.R_ne HM11.out.px.out GG.out (by decide)⟩); (case aS => exact HM11.out.px.bel.size); (case aL => have := HML.out; omega); intro v1 w7 ho hb hg2 hat; obtain ⟨A1, cp1, e1⟩ := Kd.R_slice ho; subst e1; have HPA := Aside0.mk (HM11.out.px.appended ho hb hg2); rw [List.length_append, List.length_singleton] at HPA; obtain ⟨c7, f7⟩ := px_cell0 HM11.out.px hg2; clear ho hb hg2 hat hmv hfr)
        go_ret2
        exact ⟨rfl, _, HPA.out⟩
      · go_enter Tryz.func89, Tryz.ntmps89
        go_wp2_with fail
        refine HX.out.mono ?_
        rintro e w1 hP
        obtain ⟨rfl, hO⟩ := hP.fit hk
        clear HX
        have HM1 := Aside0.mk (HMA.out.outs hO HY.out.emit)
        have HM2 := Aside0.mk (HM1.out.put (.int .i64 k) (.string (tokS s y)) (.int .i64 y.st) (.int .i64 y.p) (.int .i64 y.cl) (.int .i64 y.cs))
        obtain ⟨z0, z1, z2, z3, z4, z5, hfz⟩ := HM1.out.cells
        clear hO hP
        go_wp2_with fail
        generalize ((((((w1.setCell ⟨w.heap.size, 0, none⟩ (.int .i64 k)).setCell ⟨w.heap.size, 1, none⟩ (.string (tokS s y))).setCell ⟨w.heap.size, 2, none⟩ (.int .i64 y.st)).setCell ⟨w.heap.size, 3, none⟩ (.int .i64 y.p)).setCell ⟨w.heap.size, 4, none⟩ (.int .i64 y.cl)).setCell ⟨w.heap.size, 5, none⟩ (.int .i64 y.cs)) = W1 at HM2 ⊢
        clear z0 z1 z2 z3 z4 z5 hfz HM1
        have HU := Aside0.mk (tokUnquote_calls k (tokS s y) (.int .i64 y.st) (.int .i64 y.p) (.int .i64 y.cl) (.int .i64 y.cs) HQ1.out hsz1 W1 HM2.out.px.lx.tb.tbl HM2.out.px.pe.at_.es)
        rw [HO1.out] at HU
        refine HU.out.mono ?_
        rintro e w2 ⟨rfl, hb⟩
        have HM3 := Aside0.mk (HM2.out.below hb)
        clear hb HU HM2
        obtain ⟨z0, z1, z2, z3, z4, z5, hfz⟩ := HM3.out.cells
        have HM4 := Aside0.mk (HM3.out.below (below_alloc (Below.refl _ _) (.cells #[.int .i64 4, .int .i64 5, .int .i64 6, .int .i64 7] 143)))
        have HX2 := Aside0.mk (expect_calls_p (w2.alloc (.cells #[.int .i64 4, .int .i64 5, .int .i64 6, .int .i64 7] 143)) b _ [mv, .bool q.hob] [] s (emitS y) (.pointer (some ⟨b, 0, none⟩)) [4, 5, 6, 7] w2.heap.size 4 a HM4.out.px.lx HM4.out.px.pe HY.out.emit ⟨_, heap_alloc_new w2 _⟩ (by have := HM3.out.px.lex.lt; omega) (by simp) _ y2 HC2.out (tok_ne0 HY.out.emit HC2.out))
        clear z0 z1 z2 z3 z4 z5 hfz
        go_wp2_with fail
        refine HX2.out.mono ?_
        rintro e w3 hP
        obtain ⟨rfl, hO⟩ := hP.fit (show inK [4, 5, 6, 7] 7 = true from rfl)
        clear HX2
        have HM5 := Aside0.mk (HM4.out.outs hO HY2.out.emit)
        have HM6 := Aside0.mk (HM5.out.put (.int .i64 7) (.string (tokS s y2)) (.int .i64 y2.st) (.int .i64 y2.p) (.int .i64 y2.cl) (.int .i64 y2.cs))
        obtain ⟨z0, z1, z2, z3, z4, z5, hfz⟩ := HM5.out.cells
        have hzz : (((((((w3.setCell ⟨w.heap.size, 0, none⟩ (.int .i64 7)).setCell ⟨w.heap.size, 1, none⟩ (.string (tokS s y2))).setCell ⟨w.heap.size, 2, none⟩ (.int .i64 y2.st)).setCell ⟨w.heap.size, 3, none⟩ (.int .i64 y2.p)).setCell ⟨w.heap.size, 4, none⟩ (.int .i64 y2.cl)).setCell ⟨w.heap.size, 5, none⟩ (.int .i64 y2.cs))).heap.size = w3.heap.size := by simp [World.setCell]
        clear hO hP
        go_wp2_with fail
        generalize ((((((w3.setCell ⟨w.heap.size, 0, none⟩ (.int .i64 7)).setCell ⟨w.heap.size, 1, none⟩ (.string (tokS s y2))).setCell ⟨w.heap.size, 2, none⟩ (.int .i64 y2.st)).setCell ⟨w.heap.size, 3, none⟩ (.int .i64 y2.p)).setCell ⟨w.heap.size, 4, none⟩ (.int .i64 y2.cl)).setCell ⟨w.heap.size, 5, none⟩ (.int .i64 y2.cs)) = W2 at HM6 hzz ⊢
        clear z0 z1 z2 z3 z4 z5 hfz HM5
        have HM7 := Aside0.mk (HM6.out.below (below_alloc (Below.refl _ _) (.cells #[.int .i64 9, .int .i64 8] 143)))
        have HX3 := Aside0.mk (expect_calls_p (W2.alloc (.cells #[.int .i64 9, .int .i64 8] 143)) b _ [mv, .bool q.hob] [] s (emitS y2) (.pointer (some ⟨b, 0, none⟩)) [9, 8] w3.heap.size 2 a HM7.out.px.lx HM7.out.px.pe HY2.out.emit ⟨_, hzz ▸ heap_alloc_new W2 _⟩ (by have := HM6.out.px.lex.lt; omega) (by simp) _ y3 HC3.out (tok_ne0 HY2.out.emit HC3.out))
        refine HX3.out.mono ?_
        rintro e w4 hP
        obtain ⟨rfl, hO⟩ := hP.fit hj
        clear HX3
        have HM8 := Aside0.mk (HM7.out.outs hO HY3.out.emit)
        have HM9 := Aside0.mk (HM8.out.put (.int .i64 j) (.string (tokS s y3)) (.int .i64 y3.st) (.int .i64 y3.p) (.int .i64 y3.cl) (.int .i64 y3.cs))
        obtain ⟨z0, z1, z2, z3, z4, z5, hfz⟩ := HM8.out.cells
        clear hO hP
        go_wp2_with fail
        generalize ((((((w4.setCell ⟨w.heap.size, 0, none⟩ (.int .i64 j)).setCell ⟨w.heap.size, 1, none⟩ (.string (tokS s y3))).setCell ⟨w.heap.size, 2, none⟩ (.int .i64 y3.st)).setCell ⟨w.heap.size, 3, none⟩ (.int .i64 y3.p)).setCell ⟨w.heap.size, 4, none⟩ (.int .i64 y3.cl)).setCell ⟨w.heap.size, 5, none⟩ (.int .i64 y3.cs)) = W3 at HM9 ⊢
        clear z0 z1 z2 z3 z4 z5 hfz HM8
        have HU2 := Aside0.mk (tokUnquote_calls j (tokS s y3) (.int .i64 y3.st) (.int .i64 y3.p) (.int .i64 y3.cl) (.int .i64 y3.cs) HQ3.out hsz3 W3 HM9.out.px.lx.tb.tbl HM9.out.px.pe.at_.es)
        rw [HO3.out] at HU2
        refine HU2.out.mono ?_
        rintro e w5 ⟨rfl, hb⟩
        have HM10 := Aside0.mk (HM9.out.below hb)
        clear hb HU2 HM9
        go_wp2_with fail
        refine (newMatcherP_calls 3 n z _).mono ?_
        rintro e w6 ⟨g, rfl, hg, hgh, hb⟩
        have HM11 := Aside0.mk (HM10.out.below hb)
        have GE : Aside0 (w0.heap.size ≤ g) := ⟨Nat.le_trans HM10.out.px.bel.size hg⟩
        have GG := Aside0.mk hgh
        have hmv := HM11.out.px.cmv
        have hfr := HM11.out.px.lex.free 0
        have hbl := HM11.out.px.lex.lt
        clear hb hg hgh HM10
        go_wp2_with (at_builtin; refine Kd.R_append (ptrK 82 k25) (w0 := w0) w0.heap.size rfl (.tmp 83) (.tmp 85) 63 48 (.pointer none) 8 rfl Tryz.underlying63 infoPM rfl (by decide) (by omega) mv q.ms ⟨3, n, z⟩ [.pointer (some ⟨g, 0, none⟩)] (fun _ => True) (fun k => k = g) rfl (by first | (go_simp; done) | (go_simp; rfl)) ?aP ?aK (fun _ _ => trivial) HM11.out.px.out HM11.out.px.bel ?aS ?aL ?_; (case aP => exact ⟨g, _, rfl, rfl, GE.out, GG.out, k25_mkM _ _ _ _⟩); (case aK => rintro k rfl; exact ⟨trivial, Kd.R_ne HM11.out.px.out GG.out (by decide)⟩); (case aS => exact HM11.out.px.bel.size); (case aL => have := HML.out; omega); intro v1 w7 ho hb hg2 hat; obtain ⟨A1, cp1, e1⟩ := Kd.R_slice ho; subst e1; have HPA := Aside0.mk (HM11.out.px.appended ho hb hg2); rw [List.length_append, List.length_singleton] at HPA; obtain ⟨c7, f7⟩ := px_cell0 HM11.out.px hg2; clear ho hb hg2 hat hmv hfr)
        go_ret2
        exact ⟨rfl, _, HPA.out⟩
end Go.Proofs.YtnnhehlieakedaaGreatDoor.Q
namespace Go.Proofs.YtnnhehlieakedaaGreatDoor.Q
open Go.RowKit Go.Lib Go.Proofs.YtnnhehlieakedaaGreatDoorW.PrintWords Go.Proofs.YtnnhehlieakedaaGreatDoorW.PrintLast Go.Proofs.YtnnhehlieakedaaGreatDoorW.PrintMore
/-- What holds of the parser between two steps. -/
structure StOk (s : ByteArray) (fn : Pn) (q : PSt) : Prop where
  gd : LGd s q.x
  st : q.x.st = q.x.p
  ml : q.ms.length ≤ q.x.p.toNat
  nb : fn = .cb → ∀ y, pkT s q.x ≠ (.bad, y)
theorem tok_on {s : ByteArray} {x y : LSt} {k : Int} (g : LGd s x) (h : pkT s x = (.tok k, y)) : LGd s (emitS y) ∧ x.p < y.p ∧ y.p ≤ s.size := by
  have hg := scanF_good _ g _ _ h
  exact ⟨hg.1.emit, (hg.2 k rfl).1, hg.1.p1⟩
theorem peek_nb {s : ByteArray} {x y : LSt} {c : Sc} (h : pkT s x = (c, y)) (hc : c ≠ .bad) : ∀ z, pkT s x ≠ (.bad, z) := fun z e => hc (Prod.mk.inj (h.symm.trans e)).1
theorem stepP_ok {s : ByteArray} {fn g : Pn} {q q' : PSt} (h : StOk s fn q) (hs : stepP s fn q = some (some g, q')) : StOk s g q' ∧ measP s g q' < measP s fn q := by
  have s0 := h.gd.s0
  have s1 := h.gd.s1
  have hp1 := h.gd.p1
  have hml := h.ml
  have hsm : ∀ {m : Nat}, (∀ f' : Pn, f'.rank ≤ 3) := by intro m f'; cases f' <;> decide
  cases fn
  · -- ob
    unfold stepP at hs
    simp only at hs
    obtain ⟨c, hc⟩ : ∃ c, pkT s q.x = c := ⟨_, rfl⟩
    obtain ⟨c, y⟩ := c
    rw [hc] at hs
    cases c with
    | eof =>
      obtain ⟨e1, rfl⟩ := Prod.mk.inj (Option.some.inj hs)
      obtain rfl := Option.some.inj e1
      exact ⟨⟨h.gd, h.st, h.ml, fun e => by cases e⟩, by unfold measP Pn.rank; simp only; omega⟩
    | bad => cases hs
    | tok k =>
      simp only at hs
      obtain ⟨q1, hq1⟩ : ∃ q1, (if k = 1 then { q with hob := true, x := emitS y } else { q with hob := false } : PSt) = q1 := ⟨_, rfl⟩
      rw [hq1] at hs
      have hq : q1.ms = q.ms ∧ LGd s q1.x ∧ q1.x.st = q1.x.p ∧ q.x.p ≤ q1.x.p := by
        obtain ⟨g1, g2, g3⟩ := tok_on h.gd hc
        rw [← hq1]
        split
        · exact ⟨rfl, g1, rfl, by show q.x.p ≤ y.p; omega⟩
        · exact ⟨rfl, h.gd, h.st, Int.le_refl _⟩
      obtain ⟨c2, hc2⟩ : ∃ c2, pkT s q1.x = c2 := ⟨_, rfl⟩
      obtain ⟨c2, z⟩ := c2
      rw [hc2] at hs
      have hm1 : q1.ms.length ≤ q1.x.p.toNat := by rw [hq.1]; omega
      have hp2 := hq.2.1.p1
      cases c2 with
      | eof =>
        obtain ⟨e1, rfl⟩ := Prod.mk.inj (Option.some.inj hs)
        obtain rfl := Option.some.inj e1
        exact ⟨⟨hq.2.1, hq.2.2.1, hm1, fun _ => peek_nb hc2 (by simp)⟩, by unfold measP Pn.rank; simp only; omega⟩
      | bad => cases hs
      | tok j =>
        simp only at hs
        by_cases hj : j = 2
        · rw [if_pos hj] at hs
          obtain ⟨e1, rfl⟩ := Prod.mk.inj (Option.some.inj hs)
          obtain rfl := Option.some.inj e1
          exact ⟨⟨hq.2.1, hq.2.2.1, hm1, fun _ => peek_nb hc2 (by simp)⟩, by unfold measP Pn.rank; simp only; omega⟩
        · rw [if_neg hj] at hs
          obtain ⟨e1, rfl⟩ := Prod.mk.inj (Option.some.inj hs)
          obtain rfl := Option.some.inj e1
          exact ⟨⟨hq.2.1, hq.2.2.1, hm1, fun e => by cases e⟩, by unfold measP Pn.rank; simp only; omega⟩
  · -- cb
    unfold stepP at hs
    simp only at hs
    obtain ⟨c, hc⟩ : ∃ c, pkT s q.x = c := ⟨_, rfl⟩
    obtain ⟨c, y⟩ := c
    rw [hc] at hs
    cases c with
    | eof =>
      simp only at hs
      split at hs
      · cases hs
      · obtain ⟨e1, rfl⟩ := Prod.mk.inj (Option.some.inj hs)
        obtain rfl := Option.some.inj e1
        exact ⟨⟨h.gd, h.st, h.ml, fun e => by cases e⟩, by unfold measP Pn.rank; simp only; omega⟩
    | bad => cases hs
    | tok k =>
      obtain ⟨g1, g2, g3⟩ := tok_on h.gd hc
      simp only at hs
      split at hs
      · split at hs
        · obtain ⟨e1, rfl⟩ := Prod.mk.inj (Option.some.inj hs)
          obtain rfl := Option.some.inj e1
          exact ⟨⟨g1, rfl, by show q.ms.length ≤ y.p.toNat; omega, fun e => by cases e⟩, by unfold measP Pn.rank; show 4 * (s.size - y.p.toNat) + 0 < _; omega⟩
        · cases hs
      · split at hs
        · cases hs
        · obtain ⟨e1, rfl⟩ := Prod.mk.inj (Option.some.inj hs)
          obtain rfl := Option.some.inj e1
          exact ⟨⟨h.gd, h.st, h.ml, fun e => by cases e⟩, by unfold measP Pn.rank; simp only; omega⟩
  · -- ma
    unfold stepP at hs
    simp only at hs
    obtain ⟨c, hc⟩ : ∃ c, pkT s q.x = c := ⟨_, rfl⟩
    obtain ⟨c, y⟩ := c
    rw [hc] at hs
    cases c with
    | eof => cases hs
    | bad => cases hs
    | tok k =>
      obtain ⟨g1, g2, g3⟩ := tok_on h.gd hc
      simp only at hs
      split at hs
      case isFalse => cases hs
      cases hu : unqT k (tokS s y) with
      | none => rw [hu] at hs; cases hs
      | some n =>
        rw [hu] at hs
        simp only at hs
        obtain ⟨c2, hc2⟩ : ∃ c2, pkT s (emitS y) = c2 := ⟨_, rfl⟩
        obtain ⟨c2, y2⟩ := c2
        rw [hc2] at hs
        cases c2 with
        | eof => cases hs
        | bad => cases hs
        | tok o =>
          obtain ⟨k1, k2, k3⟩ := tok_on g1 hc2
          have k2' : y.p < y2.p := k2
          simp only at hs
          split at hs
          case isFalse => cases hs
          obtain ⟨c3, hc3⟩ : ∃ c3, pkT s (emitS y2) = c3 := ⟨_, rfl⟩
          obtain ⟨c3, y3⟩ := c3
          rw [hc3] at hs
          cases c3 with
          | eof => cases hs
          | bad => cases hs
          | tok j =>
            obtain ⟨l1, l2, l3⟩ := tok_on k1 hc3
            have l2' : y2.p < y3.p := l2
            simp only at hs
            split at hs
            case isFalse => cases hs
            cases hv : unqT j (tokS s y3) with
            | none => rw [hv] at hs; cases hs
            | some z =>
              rw [hv] at hs
              obtain ⟨e1, rfl⟩ := Prod.mk.inj (Option.some.inj hs)
              obtain rfl := Option.some.inj e1
              refine ⟨⟨l1, rfl, ?_, fun e => by cases e⟩, ?_⟩
              · show (q.ms ++ [_]).length ≤ y3.p.toNat
                rw [List.length_append, List.length_singleton]
                omega
              · unfold measP Pn.rank
                show 4 * (s.size - y3.p.toNat) + 3 < 4 * (s.size - q.x.p.toNat) + 2
                omega
  · -- en
    unfold stepP at hs
    simp only at hs
    obtain ⟨c, hc⟩ : ∃ c, pkT s q.x = c := ⟨_, rfl⟩
    obtain ⟨c, y⟩ := c
    rw [hc] at hs
    cases c with
    | eof =>
      obtain ⟨e1, rfl⟩ := Prod.mk.inj (Option.some.inj hs)
      obtain rfl := Option.some.inj e1
      exact ⟨⟨h.gd, h.st, h.ml, fun _ => peek_nb hc (by simp)⟩, by unfold measP Pn.rank; simp only; omega⟩
    | bad => cases hs
    | tok k =>
      simp only at hs
      split at hs
      · obtain ⟨e1, rfl⟩ := Prod.mk.inj (Option.some.inj hs)
        obtain rfl := Option.some.inj e1
        exact ⟨⟨h.gd, h.st, h.ml, fun e => by cases e⟩, by unfold measP Pn.rank; simp only; omega⟩
      · split at hs
        · obtain ⟨e1, rfl⟩ := Prod.mk.inj (Option.some.inj hs)
          obtain rfl := Option.some.inj e1
          exact ⟨⟨h.gd, h.st, h.ml, fun _ => peek_nb hc (by simp)⟩, by unfold measP Pn.rank; simp only; omega⟩
        · cases hs
  · -- co
    unfold stepP at hs
    simp only at hs
    obtain ⟨c, hc⟩ : ∃ c, pkT s q.x = c := ⟨_, rfl⟩
    obtain ⟨c, y⟩ := c
    rw [hc] at hs
    cases c with
    | eof => cases hs
    | bad => cases hs
    | tok k =>
      obtain ⟨g1, g2, g3⟩ := tok_on h.gd hc
      simp only at hs
      split at hs
      case isFalse => cases hs
      obtain ⟨c2, hc2⟩ : ∃ c2, pkT s (emitS y) = c2 := ⟨_, rfl⟩
      obtain ⟨c2, z⟩ := c2
      rw [hc2] at hs
      have hm1 : q.ms.length ≤ (emitS y).p.toNat := by show q.ms.length ≤ y.p.toNat; omega
      have hme : ∀ g' : Pn, g'.rank ≤ 3 → 4 * (s.size - (emitS y).p.toNat) + g'.rank < 4 * (s.size - q.x.p.toNat) + 2 := fun g' hg' => by
        show 4 * (s.size - y.p.toNat) + g'.rank < _
        omega
      cases c2 with
      | eof =>
        obtain ⟨e1, rfl⟩ := Prod.mk.inj (Option.some.inj hs)
        obtain rfl := Option.some.inj e1
        exact ⟨⟨g1, rfl, hm1, fun _ => peek_nb hc2 (by simp)⟩, hme .cb (by decide)⟩
      | bad => cases hs
      | tok j =>
        simp only at hs
        split at hs
        · obtain ⟨e1, rfl⟩ := Prod.mk.inj (Option.some.inj hs)
          obtain rfl := Option.some.inj e1
          exact ⟨⟨g1, rfl, hm1, fun _ => peek_nb hc2 (by simp)⟩, hme .cb (by decide)⟩
        · split at hs
          · obtain ⟨e1, rfl⟩ := Prod.mk.inj (Option.some.inj hs)
            obtain rfl := Option.some.inj e1
            exact ⟨⟨g1, rfl, hm1, fun e => by cases e⟩, hme .ma (by decide)⟩
          · cases hs
  · -- eo
    unfold stepP at hs
    simp only at hs
    obtain ⟨c, hc⟩ : ∃ c, pkT s q.x = c := ⟨_, rfl⟩
    obtain ⟨c, y⟩ := c
    rw [hc] at hs
    cases c with
    | eof =>
      obtain ⟨e1, rfl⟩ := Prod.mk.inj (Option.some.inj hs)
      cases e1
    | bad => cases hs
    | tok k => cases hs
end Go.Proofs.YtnnhehlieakedaaGreatDoor.Q
namespace Go.Proofs.YtnnhehlieakedaaGreatDoor.Q
open Go.RowKit Go.Lib Go.Proofs.YtnnhehlieakedaaGreatDoorW.PrintWords Go.Proofs.YtnnhehlieakedaaGreatDoorW.PrintLast Go.Proofs.YtnnhehlieakedaaGreatDoorW.PrintMore
attribute [local go_sem] max2_int min2_int max_two min_two max_three min_three max_four min_four
/-- Every state of the parser by its contract. -/
theorem step_calls (fn : Pn) (w0 w : World) (a : Addr) (b : Nat) (s : ByteArray) (q : PSt) (mv : Value) (hs : s.size ≤ 1000000000) (h : PX w0 w a b s q mv .nilIface) (ho : StOk s fn q) :
    Calls Tryz.prog fn.fn #[.pointer (some ⟨b, 0, none⟩), .pointer (some ⟨b, 2, none⟩)] w fun e w' => StP w0 w' a b s (stepP s fn q) e := by
  have hml : q.ms.length ≤ s.size := by have := ho.ml; have := ho.gd.p1; omega
  cases fn with
  | ob => exact parseOpenBrace_calls w0 w a b s q mv h
  | cb => exact parseCloseBrace_calls w0 w a b s q mv h (ho.nb rfl)
  | ma => exact parseMatcher_calls w0 w a b s q mv hs h ho.st hml
  | en => exact parseEndOfMatcher_calls w0 w a b s q mv h
  | co => exact parseComma_calls w0 w a b s q mv h
  | eo => exact parseEOF_calls w0 w a b s q mv h
def rankV : Value → Nat
  | .func (.func n) _ _ => if n = 86 then 0 else if n = 88 then 1 else if n = 89 then 2 else if n = 146 then 2 else 3
  | _ => 0
def measV (b : Nat) (s : ByteArray) (v : Value) (w : World) : Nat := match w.cell? ⟨b, 5, none⟩ with
  | some (.int _ p) => 4 * (s.size - p.toNat) + rankV v
  | _ => 0
theorem measV_is {w0 w : World} {a : Addr} {b : Nat} {s : ByteArray} {q : PSt} {mv err : Value} (h : PX w0 w a b s q mv err) (f : Pn) : measV b s (fnV b (some f)) w = measP s f q := by
  unfold measV measP
  rw [show w.cell? ⟨b, 5, none⟩ = some (.int .i64 q.x.p) from h.lex.c3]
  simp only
  congr 1
  cases f <;> rfl
/-- What parse hands back. -/
def PaP (w0 w' : World) (o : Option (List S25)) (e : Ending) : Prop := match o with
  | none => ∃ ti pv, e = .returned (.tuple #[.slice none 0 0, .iface ti pv]) ∧ Below w0.heap.size w0 w'
  | some l => ∃ v, e = .returned (.tuple #[v, .nilIface]) ∧ Kd.R (ptrK 82 k25) 48 w' w0.heap.size (fun _ => True) v l ∧ Below w0.heap.size w0 w'
set_option maxRecDepth 100000 in
set_option maxHeartbeats 4000000 in
theorem parse_calls (w0 w : World) (a : Addr) (b : Nat) (s : ByteArray) (mv : Value) (hs : s.size ≤ 1000000000) (h : PX w0 w a b s ⟨[], false, lx0⟩ mv .nilIface) :
    Calls Tryz.prog 49 #[.pointer (some ⟨b, 0, none⟩)] w fun e w' => PaP w0 w' (parF s) e := by
  have HP0 := Aside0.mk h
  have HO0 : Aside0 (StOk s .ob ⟨[], false, lx0⟩) := ⟨⟨h.gd, rfl, Nat.zero_le _, fun e => by cases e⟩⟩
  have hmf : ∀ (fn : Fn) (first cap : Array Value) (w : World), (Instr.makeFunc fn first cap).run Tryz.prog w = .ok (.func fn first cap) w := fun _ _ _ _ => rfl
  have hnf : ∀ (n : Nat) (first cap : Array Value) (w : World), (binOp BinOp.eql 123 (.func (.func n) first cap) .nilFunc).run Tryz.prog w = .ok (.bool false) w := fun n first cap w => by kernel_rfl
  have hnn : ∀ (w : World), (binOp BinOp.eql 123 .nilFunc .nilFunc).run Tryz.prog w = .ok (.bool true) w := fun w => by kernel_rfl
  clear h
  go_enter Tryz.func49, Tryz.ntmps49
  go_wp2
  go_loopw [5] (fun v5 wr => ∃ (fn : Pn) (q : PSt) (mv : Value) (k : Nat), v5 = fnV b (some fn) ∧ Aside0 (PX w0 wr a b s q mv .nilIface) ∧ Aside0 (StOk s fn q) ∧ Aside0 (runP s k fn q = parF s) ∧ measP s fn q < k) (fun v5 wr => measV b s v5 wr)
  case atStart => exact ⟨.ob, _, _, _, rfl, HP0, HO0, ⟨rfl⟩, by unfold measP Pn.rank; show 4 * (s.size - 0) + 3 < _; omega⟩
  case round =>
    clear HP0 HO0
    obtain ⟨fn, q, mv, k, rfl, HP, HO, HR, hk⟩ := hrel
    obtain ⟨k, rfl⟩ : ∃ j, k = j + 1 := ⟨k - 1, by omega⟩
    have HQ := Aside0.mk (step_calls fn w0 wr a b s q mv hs HP.out HO.out)
    rw [show runP s (k + 1) fn q = match stepP s fn q with
      | none => none
      | some (none, q') => some q'.ms
      | some (some f, q') => runP s k f q' from rfl] at HR
    obtain ⟨o, ho⟩ : ∃ o, stepP s fn q = o := ⟨_, rfl⟩
    rw [ho] at HQ HR
    have HMV : Aside0 (∀ (g : Pn) (q' : PSt) (mv' : Value) (w1 : World), o = some (some g, q') → PX w0 w1 a b s q' mv' .nilIface → StOk s g q' ∧ measP s g q' < measP s fn q ∧ measV b s (fnV b (some g)) w1 < measV b s (fnV b (some fn)) wr) := ⟨fun g q' mv' w1 e hp => by
      have hk := stepP_ok HO.out (ho.trans e)
      exact ⟨hk.1, hk.2, by rw [measV_is hp, measV_is HP.out]; exact hk.2⟩⟩
    clear ho HO
    cases fn
    all_goals
      simp only [fnV, Pn.fn] at HQ ⊢
      go_wp2_with fail
      refine HQ.out.mono ?_
      rintro e w1 hP
      cases o with
      | none =>
        obtain ⟨ti, pv, rfl, hb⟩ := hP
        have HB := Aside0.mk hb
        have HN : Aside0 (parF s = none) := ⟨HR.out.symm⟩
        clear hb HQ
        go_wp2
        go_ret2
        rw [HN.out]
        exact ⟨_, _, rfl, HB.out⟩
      | some q2 =>
        obtain ⟨f, q'⟩ := q2
        obtain ⟨rfl, mv', hpx⟩ := hP
        have HP' := Aside0.mk hpx
        clear hpx HQ
        cases f with
        | none =>
          have HN : Aside0 (parF s = some q'.ms) := ⟨HR.out.symm⟩
          have hmv := HP'.out.cmv
          simp only [fnV]
          go_wp2
          go_ret2
          rw [HN.out]
          exact ⟨_, rfl, HP'.out.out, HP'.out.bel⟩
        | some g =>
          have HK := Aside0.mk (HMV.out g q' mv' w1 rfl HP'.out)
          have HKM := HK.out.2.1
          clear HMV
          cases g
          all_goals
            simp only [fnV, Pn.fn] at HK ⊢
            go_wp2
            go_roundw
            case rel => exact ⟨_, q', mv', k, rfl, HP', ⟨HK.out.1⟩, HR, by omega⟩
            case measure => exact HK.out.2.2
end Go.Proofs.YtnnhehlieakedaaGreatDoor.Q
namespace Go.Proofs.YtnnhehlieakedaaGreatDoor.Q
open Go.RowKit Go.Lib Go.Proofs.YtnnhehlieakedaaGreatDoorW.PrintWords Go.Proofs.YtnnhehlieakedaaGreatDoorW.PrintLast Go.Proofs.YtnnhehlieakedaaGreatDoorW.PrintMore
attribute [local go_sem] max2_int min2_int max_two min_two max_three min_three max_four min_four
theorem rec_idle (p : Addr) (w : World) :
    CallsD Tryz.prog 48 #[.pointer (some p)] .returning w fun e u' w' => e = .returned (.tuple #[]) ∧ u' = .returning ∧ w' = w := by
  refine callsD_of_wpS Tryz.func48 rfl fun c₀ cs hu => ?_
  apply wpS_seq
  apply wpS_region
  simp [wpOpsS, go_sem, recoverD, hu, Tryz.ntmps48, Exit.thenS]
  apply wpS_seq
  apply wpS_region
  simp [wpOpsS, go_sem, Exit.thenS]
  refine wpS_cond (t := false) (by simp [Act.eval, Array.replicate]) ?_
  simp only [Bool.false_eq_true, if_false]
  refine wpS_of_wp (wp_skip ?_)
  cases c₀
  simp_all [bodyPostS, results, Tryz.results48]
theorem PX.start (w : World) (a : Addr) (s : ByteArray) (hs : s.size ≤ 4294967296) (tb : TBl w) (he : ErrsAt w a) : PX w (w.alloc (.cells #[.slice none 0 0, .bool false, .string s, .nilIface, .int .i64 0, .int .i64 0, .int .i64 0, .int .i64 0, .int .i64 0] 92)) a w.heap.size s ⟨[], false, lx0⟩ (.slice none 0 0) .nilIface :=
  ⟨heap_alloc_new w _, Kd.R_nil _ _ _ _ _, below_alloc (Below.refl _ _) _, Nat.le_refl _, ⟨by show (0 : Int) ≤ _; omega, by decide, by decide, by decide, by decide, by decide, by decide, by decide, hs⟩, tb, he⟩
set_option maxRecDepth 100000 in
set_option maxHeartbeats 2000000 in
theorem matchers_calls (s : ByteArray) (hs : s.size ≤ 1000000000) (a : Addr) (w : World) (tb : TBl w) (he : ErrsAt w a) :
    Calls Tryz.prog 28 #[.string s] w fun e w' => PaP w w' (parF s) e := by
  have tb1 : TBl (w.alloc (.cells #[.nilIface] 50)) := tb.below (below_alloc (Below.refl _ _) _)
  have he1 : ErrsAt (w.alloc (.cells #[.nilIface] 50)) a := he.below (below_alloc (Below.refl _ _) _)
  have HX := Aside0.mk (parse_calls (w.alloc (.cells #[.nilIface] 50)) _ a (w.alloc (.cells #[.nilIface] 50)).heap.size s _ hs (PX.start (w.alloc (.cells #[.nilIface] 50)) a s (by omega) tb1 he1))
  rw [show (w.alloc (.cells #[.nilIface] 50)).heap.size = w.heap.size + 1 by simp] at HX
  have hu1 := Tryz.underlying92
  have hu2 := Tryz.underlying90
  have hmf : ∀ (fn : Fn) (first cap : Array Value) (w : World), (Instr.makeFunc fn first cap).run Tryz.prog w = .ok (.func fn first cap) w := fun _ _ _ _ => rfl
  obtain ⟨o, ho⟩ : ∃ o, parF s = o := ⟨_, rfl⟩
  rw [ho] at HX ⊢
  clear ho tb he tb1 he1
  cases o with
  | none =>
    go_enter_defers Tryz.func28, Tryz.ntmps28
    go_wp2_with fail
    refine HX.out.mono ?_
    rintro e w1 ⟨ti, pv, rfl, hb⟩
    have HB := Aside0.mk hb
    obtain ⟨hcz, hfz⟩ := cells_in ((hb.block w.heap.size (by simp)).trans (heap_alloc_new w _))
    have z0 := hcz 0
    simp only [List.getElem?_toArray, List.getElem?_cons_zero] at z0
    clear hb hcz HX
    go_wp2
    have hr : (w1.setCell ⟨w.heap.size, 0, none⟩ (.iface ti pv)).cell? ⟨w.heap.size, 0, none⟩ = some (.iface ti pv) := by first | exact World.cell?_setCell_same _ _ _ _ z0 | simp [World.cell?_setCell_same, z0]
    have hB2 : Below w.heap.size w (w1.setCell ⟨w.heap.size, 0, none⟩ (.iface ti pv)) := below_set (below_step (below_alloc (Below.refl _ _) _) HB.out) (Nat.le_refl _)
    generalize w1.setCell ⟨w.heap.size, 0, none⟩ (.iface ti pv) = W at hr hB2 ⊢
    refine leaves_cons (f := 48) (args := #[.pointer (some ⟨w.heap.size, 0, none⟩)]) (by simp) (by simp [go_sem]) ?_
    refine (rec_idle ⟨w.heap.size, 0, none⟩ _).mono ?_
    rintro e u' w2 ⟨rfl, rfl, rfl⟩
    exact ⟨.tuple #[.slice none 0 0, .iface ti pv], by simp [results, Tryz.results28, go_sem, hr], ⟨ti, pv, rfl, hB2⟩⟩
  | some l =>
    go_enter_defers Tryz.func28, Tryz.ntmps28
    go_wp2_with fail
    refine HX.out.mono ?_
    rintro e w1 ⟨v, rfl, hR, hb⟩
    obtain ⟨A1, c1, e1⟩ := Kd.R_slice hR
    subst e1
    have HB := Aside0.mk hb
    have HR := Aside0.mk hR
    have hblk := (hb.block w.heap.size (by simp)).trans (heap_alloc_new w _)
    have HBK := Aside0.mk hblk
    obtain ⟨hcz, hfz⟩ := cells_in hblk
    have z0 := hcz 0
    simp only [List.getElem?_toArray, List.getElem?_cons_zero] at z0
    clear hb hcz HX hR hblk
    go_wp2
    have hr : (w1.setCell ⟨w.heap.size, 0, none⟩ .nilIface).cell? ⟨w.heap.size, 0, none⟩ = some .nilIface := by first | exact World.cell?_setCell_same _ _ _ _ z0 | simp [World.cell?_setCell_same, z0]
    have hB2 : Below w.heap.size w (w1.setCell ⟨w.heap.size, 0, none⟩ .nilIface) := below_set (below_step (below_alloc (Below.refl _ _) _) HB.out) (Nat.le_refl _)
    have hR2 : Kd.R (ptrK 82 k25) 48 (w1.setCell ⟨w.heap.size, 0, none⟩ .nilIface) w.heap.size (fun _ => True) (.slice A1 l.length c1) l := by
      have hg : w1.grownBy (w1.setCell ⟨w.heap.size, 0, none⟩ .nilIface) (some w.heap.size) := grown_set (World.grownBy.refl w1 _) _ _
      refine Kd.R_over' (v := .slice (some ⟨w.heap.size, 0, none⟩) 0 0) (e' := 50) (Kd.R_lower HR.out (by simp)) (fun k hk => ?_) (by decide) hg
      have e : some w.heap.size = some k := hk
      injection e with e
      exact ⟨_, by rw [← e]; exact HBK.out⟩
    generalize w1.setCell ⟨w.heap.size, 0, none⟩ .nilIface = W at hr hB2 hR2 ⊢
    refine leaves_cons (f := 48) (args := #[.pointer (some ⟨w.heap.size, 0, none⟩)]) (by simp) (by simp [go_sem]) ?_
    refine (rec_idle ⟨w.heap.size, 0, none⟩ _).mono ?_
    rintro e u' w2 ⟨rfl, rfl, rfl⟩
    exact ⟨.tuple #[.slice A1 l.length c1, .nilIface], by simp [results, Tryz.results28, go_sem, hr], ⟨_, rfl, hR2, hB2⟩⟩
end Go.Proofs.YtnnhehlieakedaaGreatDoor.Q
namespace Go.Proofs.YtnnhehlieakedaaGreatDoor.Q
open Go.RowKit Go.Lib Go.Proofs.YtnnhehlieakedaaGreatDoorW.PrintWords Go.Proofs.YtnnhehlieakedaaGreatDoorW.PrintLast Go.Proofs.YtnnhehlieakedaaGreatDoorW.PrintMore
attribute [local go_sem] max2_int min2_int max_two min_two max_three min_three max_four min_four
set_option maxRecDepth 100000 in
set_option maxHeartbeats 1000000 in
theorem outerM_calls (g : Nat) (k : Int) (n x : ByteArray) (w : World) (h : w.heap[g]? = some (.cells #[.int .i64 k, .string n, .string x] 82 (0, 0))) :
    Calls Tryz.prog 25 #[.pointer (some ⟨g, 0, none⟩)] w fun e w' => e = .returned (.agg #[.int .i64 k, .string n, .string x]) ∧ Below w.heap.size w w' := by
  have hu := Tryz.underlying25
  have hup := Tryz.underlying82
  have hlt : g < w.heap.size := (Array.getElem?_eq_some_iff.1 h).1
  have c0 : w.cell? ⟨g, 0, none⟩ = some (.int .i64 k) := Lib.cell_of_heap h 0
  have c1 : w.cell? ⟨g, 1, none⟩ = some (.string n) := Lib.cell_of_heap h 1
  have c2 : w.cell? ⟨g, 2, none⟩ = some (.string x) := Lib.cell_of_heap h 2
  go_enter Tryz.func25, Tryz.ntmps25
  go_wp2
  go_region_held3 (fun w' => w'.cell? ⟨g, 0, none⟩ = some (.int .i64 k) ∧ w'.cell? ⟨g, 1, none⟩ = some (.string n) ∧ w'.cell? ⟨g, 2, none⟩ = some (.string x)) (first | go_keep) (first | fail)
  go_wp2
  exact bodyPost_ret (v := .agg #[.int .i64 k, .string n, .string x]) (by simp [results, Tryz.results25, go_sem]) rfl ⟨rfl, by repeat (first | exact Below.refl _ _ | apply below_alloc | apply below_drew | apply pw_below_drewN)⟩
theorem take_stepQ (l : List S25) (x : Int) (h0 : 0 ≤ x) (h1 : x < (l.length : Int)) : l.take (x + 1).toNat = l.take x.toNat ++ [rd_T25 l x] := by
  obtain ⟨n, rfl⟩ := Int.eq_ofNat_of_zero_le h0
  have e : ((n : Int) + 1).toNat = n + 1 := by omega
  rw [e, Int.toNat_natCast, List.take_succ_eq_append_getElem (by omega)]
  simp [rd_T25, List.getD_eq_getElem?_getD, List.getElem?_eq_getElem (show n < l.length by omega)]
theorem infoMQ : (Tryz.prog.info? 25).map (fun i => (i.zero, i.size, i.bytes)) = some (some (.agg #[.int .i64 0, .string ⟨#[]⟩, .string ⟨#[]⟩]), 3, 40) := by kernel_rfl
set_option maxRecDepth 100000 in
set_option maxHeartbeats 2000000 in
theorem outers_calls (A0 : Option Addr) (c0 : Nat) (l0 : List S25) (w : World) (hr0 : Kd.C (ptrK 82 k25) w A0 l0.length l0) (hlen : l0.length ≤ 1000000000) :
    Calls Tryz.prog 29 #[.slice A0 l0.length c0] w fun e w' => ∃ v, e = .returned v ∧ Kd.R k25 25 w' w.heap.size (fun _ => True) v l0 ∧ Below w.heap.size w w' := by
  have hu := Tryz.underlying25
  have HR0 := Aside0.mk hr0
  clear hr0
  have HB := Aside0.mk (Below.refl w.heap.size w)
  go_enter Tryz.func29, Tryz.ntmps29
  go_wp2
  go_loopw [3, 8] (fun v3 v8 w' => ∃ x : Int, 0 ≤ x ∧ x ≤ (l0.length : Int) ∧ v8 = .int .i64 x ∧ Aside0 (Kd.R k25 25 w' w.heap.size (fun _ => True) v3 (l0.take x.toNat)) ∧ Aside0 (Below w.heap.size w w')) (fun _ v8 _ => ((l0.length : Int) - RowKit.intOf v8).toNat)
  case atStart => exact ⟨0, by omega, by omega, rfl, ⟨by simpa using Kd.R_nil _ _ _ _ _⟩, HB⟩
  case round =>
    obtain ⟨x, hx, hxl, rfl, HO, HB⟩ := hrel
    by_cases hlt : x < (l0.length : Int)
    · obtain ⟨ad, b, c, e1, hp0, hb0, hk0⟩ := at_ptr (Kd.C_below HR0.out HB.out) z25 x hx hlt
      cases e1
      have hc := k25_open hk0
      subst hc
      have HBB : Aside0 (_ = _) := ⟨hb0⟩
      have hst := Aside0.mk (take_stepQ l0 x hx hlt)
      have hrd : (l0.getD x.toNat z25) = rd_T25 l0 x := rfl
      rw [hrd] at hb0
      have HB0 := Aside0.mk hb0
      clear hb0 hk0 HBB hrd
      generalize rd_T25 l0 x = m at *
      have hp := eq_true hx
      have hq := eq_true hlt
      go_wp2_with fail
      refine (outerM_calls b m.f0 m.f1 m.f2 _ HB0.out).mono ?_
      rintro e w1 ⟨rfl, hb1⟩
      have HO1 := Aside0.mk (Kd.R_below HO.out hb1)
      have HB1 := Aside0.mk (HB.out.trans (hb1.mono HB.out.size))
      clear HO HB hb1
      go_wp2_with (at_builtin; refine Kd.R_append k25 (w0 := w) w.heap.size rfl (.tmp 12) (.tmp 15) 32 25 (.agg #[.int .i64 0, .string ⟨#[]⟩, .string ⟨#[]⟩]) 40 rfl Tryz.underlying32 infoMQ rfl (by decide) (by omega) u3 (l0.take x.toNat) m [.int .i64 m.f0, .string m.f1, .string m.f2] (fun _ => True) (fun _ => False) rfl (by first | (go_simp; done) | (go_simp; rfl)) (k25_mkM _ _ _ m) (fun _ hk => hk.elim) (fun _ _ => trivial) HO1.out HB1.out ?aS ?aL ?_; (case aS => exact HB1.out.size); (case aL => rw [List.length_take]; omega); intro v1 w6 ho hb hg6 hat6; have HO6 := Aside0.mk ho; have HB6 := Aside0.mk hb; clear ho hb hg6 hat6)
      go_roundw
      case rel => exact ⟨x + 1, by omega, by omega, rfl, ⟨by rw [hst.out]; exact HO6.out⟩, HB6⟩
      case measure => simp [RowKit.intOf]; omega
    · have hxe : x = (l0.length : Int) := by omega
      subst hxe
      go_wp2
      go_ret
      exact ⟨_, rfl, by simpa using HO.out, HB.out⟩
def oneM : Option (List S25) → Option S25
  | some [m] => some m
  | _ => none
/-- The one matcher that a text is. -/
def parM (s : ByteArray) : Option S25 := oneM (parF s)
def MaP (w w' : World) (o : Option S25) (e : Ending) : Prop := match o with
  | none => ∃ p ti pv, e = .returned (.tuple #[p, .iface ti pv]) ∧ Below w.heap.size w w'
  | some m => ∃ g, e = .returned (.tuple #[.pointer (some ⟨g, 0, none⟩), .nilIface]) ∧ w'.heap[g]? = some (.cells #[.int .i64 m.f0, .string m.f1, .string m.f2] 82 (0, 0)) ∧ Below w.heap.size w w'
set_option maxRecDepth 100000 in
set_option maxHeartbeats 2000000 in
theorem matcher_calls (s : ByteArray) (hs : s.size ≤ 1000000000) (a : Addr) (w : World) (tb : TBl w) (he : ErrsAt w a) :
    Calls Tryz.prog 24 #[.string s] w fun e w' => MaP w w' (parM s) e := by
  have HX := Aside0.mk (matchers_calls s hs a w tb he)
  obtain ⟨o, ho⟩ : ∃ o, parF s = o := ⟨_, rfl⟩
  have hM : parM s = oneM o := congrArg oneM ho
  rw [ho] at HX
  rw [hM]
  clear ho hM tb he
  match o with
  | none =>
    go_enter Tryz.func24, Tryz.ntmps24
    go_wp2_with fail
    refine HX.out.mono ?_
    rintro e w1 ⟨ti, pv, rfl, hb⟩
    have HB := Aside0.mk hb
    clear hb HX
    go_wp2
    go_ret2
    exact ⟨_, _, _, rfl, HB.out⟩
  | some [] =>
    go_enter Tryz.func24, Tryz.ntmps24
    go_wp2_with fail
    refine HX.out.mono ?_
    rintro e w1 ⟨v, rfl, hR, hb⟩
    obtain ⟨A1, c1, e1, hc1, hC⟩ := Kd.R_reads hR
    subst e1
    have HB := Aside0.mk hb
    clear hb HX hR
    simp only [List.length_nil]
    go_wp2_with fail
    refine (errNew_calls _ _).mono ?_
    rintro e w2 ⟨g, rfl, hb⟩
    have HB2 := Aside0.mk (below_step HB.out hb)
    clear hb
    go_wp2
    go_ret2
    exact ⟨_, _, _, rfl, HB2.out⟩
  | some [m] =>
    go_enter Tryz.func24, Tryz.ntmps24
    go_wp2_with fail
    refine HX.out.mono ?_
    rintro e w1 ⟨v, rfl, hR, hb⟩
    obtain ⟨A1, c1, e1, hc1, hC⟩ := Kd.R_reads hR
    subst e1
    obtain ⟨ad, b, c, e2, hp0, hb0, hk0⟩ := at_ptr hC z25 0 (by decide) (by simp)
    subst e2
    have hc := k25_open hk0
    subst hc
    have HB := Aside0.mk hb
    have HB0 : Aside0 (w1.heap[b]? = some (.cells #[.int .i64 m.f0, .string m.f1, .string m.f2] 82 (0, 0))) := ⟨hb0⟩
    have hp1 : w1.cell? ad = some (.pointer (some ⟨b, 0, none⟩)) := hp0
    clear hb HX hR hC hb0 hk0
    simp only [List.length_singleton]
    go_wp2
    go_ret2
    exact ⟨b, rfl, HB0.out, HB.out⟩
  | some (m :: m2 :: l) =>
    go_enter Tryz.func24, Tryz.ntmps24
    go_wp2_with fail
    refine HX.out.mono ?_
    rintro e w1 ⟨v, rfl, hR, hb⟩
    obtain ⟨A1, c1, e1, hc1, hC⟩ := Kd.R_reads hR
    subst e1
    have HB := Aside0.mk hb
    have hl1 : (((m :: m2 :: l).length : Int) == 1) = false := beq_eq_false_iff_ne.2 (by simp; omega)
    have hl0 : (((m :: m2 :: l).length : Int) == 0) = false := beq_eq_false_iff_ne.2 (by simp; omega)
    clear hb HX hR hC
    generalize (m :: m2 :: l).length = n at *
    go_wp2_with fail
    refine (errNew_calls _ _).mono ?_
    rintro e w2 ⟨g, rfl, hb⟩
    have HB2 := Aside0.mk (below_step HB.out hb)
    clear hb
    go_wp2
    go_ret2
    exact ⟨_, _, _, rfl, HB2.out⟩
/-- What the reader's contracts ask of the library's variables. -/
def TBq (w : World) : Prop := TBl w ∧ ∃ a, ErrsAt w a
theorem TBq.below {w w' : World} (h : TBq w) (hb : Below w.heap.size w w') : TBq w' := by
  obtain ⟨h1, a, h2⟩ := h
  exact ⟨h1.below hb, a, h2.below hb⟩
def pmR (s : ByteArray) : List S25 × Bool := match parF s with
  | none => ([], false)
  | some l => (l, true)
def impl_ParseMatchers.f (a0 : ByteArray) : Option (List S25 × Bool) := if a0.size ≤ 1000000000 then some (pmR a0) else none
theorem lx0_goodP (s : ByteArray) (h : s.size ≤ 4294967296) : LGd s lx0 := ⟨by show (0 : Int) ≤ _; omega, by decide, by decide, by decide, by decide, by decide, by decide, by decide, h⟩
theorem parF_len {s : ByteArray} {l : List S25} : ∀ (k : Nat) (fn : Pn) (q : PSt), StOk s fn q → runP s k fn q = some l → l.length ≤ s.size
  | 0, _, _, _, h => by cases h
  | k + 1, fn, q, ok, h => by
    rw [runP] at h
    cases hs : stepP s fn q with
    | none => rw [hs] at h; cases h
    | some x =>
      obtain ⟨f, q'⟩ := x
      rw [hs] at h
      cases f with
      | some f => exact parF_len k f q' (stepP_ok ok hs).1 h
      | none =>
        obtain rfl := Option.some.inj h
        have hq : q'.ms = q.ms := by
          cases fn
          case eo =>
            unfold stepP at hs
            simp only at hs
            split at hs
            · obtain ⟨_, rfl⟩ := Prod.mk.inj (Option.some.inj hs); rfl
            · cases hs
          all_goals
            exfalso
            unfold stepP at hs
            simp only at hs
            repeat' split at hs
            all_goals first | (cases hs; done) | (have e := (Prod.mk.inj (Option.some.inj hs)).1; cases e; done)
        rw [hq]
        have := ok.ml
        have := ok.gd.p1
        omega
set_option maxRecDepth 100000 in
set_option maxHeartbeats 2000000 in
theorem impl_ParseMatchers.calls (a0 : ByteArray) (r1 : List S25) (r2 : Bool) (w : World) (tb : TBq w) (h : impl_ParseMatchers.f a0 = some (r1, r2)) :
    Calls Tryz.prog 12 #[.string a0] w fun e w' => ∃ v0_ : Value, e = .returned (.tuple #[v0_, .bool r2]) ∧ Kd.R k25 25 w' w.heap.size (fun _ => True) v0_ r1 ∧ Below w.heap.size w w' := by
  unfold impl_ParseMatchers.f at h
  split at h
  case isFalse => cases h
  case isTrue hs =>
  have h2 := Option.some.inj h
  obtain ⟨tl, a, he⟩ := tb
  have HX := Aside0.mk (matchers_calls a0 (by omega) a w tl he)
  have HL : Aside0 (∀ l, parF a0 = some l → l.length ≤ 1000000000) := ⟨fun l hl => by
    have := parF_len _ .ob ⟨[], false, lx0⟩ ⟨lx0_goodP a0 (by omega), rfl, Nat.zero_le _, fun e => by cases e⟩ hl
    omega⟩
  unfold pmR at h2
  obtain ⟨o, ho⟩ : ∃ o, parF a0 = o := ⟨_, rfl⟩
  rw [ho] at HX HL h2
  clear ho tl he h
  cases o with
  | none =>
    obtain ⟨rfl, rfl⟩ := Prod.mk.inj h2
    go_enter Tryz.func12, Tryz.ntmps12
    go_wp2_with fail
    refine HX.out.mono ?_
    rintro e w1 ⟨ti, pv, rfl, hb⟩
    have HB := Aside0.mk hb
    clear hb HX
    go_wp2
    go_ret2
    exact ⟨_, rfl, Kd.R_nil _ _ _ _ _, HB.out⟩
  | some l =>
    obtain ⟨rfl, rfl⟩ := Prod.mk.inj h2
    have hlen := HL.out l rfl
    go_enter Tryz.func12, Tryz.ntmps12
    go_wp2_with fail
    refine HX.out.mono ?_
    rintro e w1 ⟨v, rfl, hR, hb⟩
    obtain ⟨A1, c1, e1, hc1, hC⟩ := Kd.R_reads hR
    subst e1
    have HB := Aside0.mk hb
    have HC := Aside0.mk hC
    clear hb HX hR hC
    go_wp2_with fail
    refine (outers_calls A1 c1 l _ HC.out (by omega)).mono ?_
    rintro e w2 ⟨v2, rfl, hR2, hb⟩
    have HR2 := Aside0.mk (Kd.R_lower hR2 HB.out.size)
    have HB2 := Aside0.mk (below_step HB.out hb)
    clear hR2 hb
    go_wp2
    go_ret2
    exact ⟨_, rfl, HR2.out, HB2.out⟩
def p1R (s : ByteArray) : Int × ByteArray × ByteArray × Bool := match parM s with
  | none => (0, ⟨#[]⟩, ⟨#[]⟩, false)
  | some m => (m.f0, m.f1, m.f2, true)
def impl_ParseMatcher.f (a0 : ByteArray) : Option (Int × ByteArray × ByteArray × Bool) := if a0.size ≤ 1000000000 then some (p1R a0) else none
theorem cells_inQ {w : World} {k : Nat} {cs : Array Value} {t : Nat} (h : w.heap[k]? = some (.cells cs t (0, 0))) : (∀ j, w.cell? ⟨k, j, none⟩ = cs[j]?) ∧ ∀ j, w.frozen? ⟨k, j, none⟩ = false :=
  ⟨fun j => Lib.cell_of_heap h j, fun j => by simp [World.frozen?, h]⟩
set_option maxRecDepth 100000 in
set_option maxHeartbeats 2000000 in
theorem impl_ParseMatcher.calls (a0 : ByteArray) (r1 : Int) (r2 : ByteArray) (r3 : ByteArray) (r4 : Bool) (w : World) (tb : TBq w) (h : impl_ParseMatcher.f a0 = some (r1, r2, r3, r4)) :
    Calls Tryz.prog 9 #[.string a0] w fun e w' => e = .returned (.tuple #[.agg #[.int .i64 r1, .string r2, .string r3], .bool r4]) ∧ Below w.heap.size w w' := by
  unfold impl_ParseMatcher.f at h
  split at h
  case isFalse => cases h
  case isTrue hs =>
  have h2 := Option.some.inj h
  have hu := Tryz.underlying25
  obtain ⟨tl, a, he⟩ := tb
  have HX := Aside0.mk (matcher_calls a0 (by omega) a (w.alloc (.cells #[.int .i64 0, .string ⟨#[]⟩, .string ⟨#[]⟩] 25)) (tl.below (below_alloc (Below.refl _ _) _)) (he.below (below_alloc (Below.refl _ _) _)))
  unfold p1R at h2
  obtain ⟨o, ho⟩ : ∃ o, parM a0 = o := ⟨_, rfl⟩
  rw [ho] at HX h2
  clear ho tl he h
  cases o with
  | none =>
    obtain ⟨rfl, h3⟩ := Prod.mk.inj h2
    obtain ⟨rfl, h4⟩ := Prod.mk.inj h3
    obtain ⟨rfl, rfl⟩ := Prod.mk.inj h4
    go_enter Tryz.func9, Tryz.ntmps9
    go_wp2_with fail
    refine HX.out.mono ?_
    rintro e w1 ⟨p, ti, pv, rfl, hb⟩
    have HB := Aside0.mk hb
    obtain ⟨hcell, hfree⟩ := cells_inQ ((hb.block w.heap.size (by simp)).trans (heap_alloc_new w _))
    have q0 := hcell 0
    have q1 := hcell 1
    have q2 := hcell 2
    simp only [List.getElem?_toArray, List.getElem?_cons_zero, List.getElem?_cons_succ] at q0 q1 q2
    clear hb hcell HX
    go_wp2
    exact bodyPost_ret (v := .tuple #[.agg #[.int .i64 0, .string ⟨#[]⟩, .string ⟨#[]⟩], .bool false]) (by simp [results, Tryz.results9, go_sem, q0, q1, q2]) rfl ⟨rfl, by repeat (first | (refine below_set ?_ (Nat.le_refl _)) | exact below_step (below_alloc (Below.refl _ _) _) HB.out)⟩
  | some m =>
    obtain ⟨rfl, h3⟩ := Prod.mk.inj h2
    obtain ⟨rfl, h4⟩ := Prod.mk.inj h3
    obtain ⟨rfl, rfl⟩ := Prod.mk.inj h4
    go_enter Tryz.func9, Tryz.ntmps9
    go_wp2_with fail
    refine HX.out.mono ?_
    rintro e w1 ⟨g, rfl, hg, hb⟩
    have HB := Aside0.mk hb
    have HG := Aside0.mk hg
    obtain ⟨hcell, hfree⟩ := cells_inQ ((hb.block w.heap.size (by simp)).trans (heap_alloc_new w _))
    have q0 : w1.cell? ⟨w.heap.size, 0, none⟩ = some (.int .i64 0) := hcell 0
    have q1 : w1.cell? ⟨w.heap.size, 1, none⟩ = some (.string ⟨#[]⟩) := hcell 1
    have q2 : w1.cell? ⟨w.heap.size, 2, none⟩ = some (.string ⟨#[]⟩) := hcell 2
    have hblk := (hb.block w.heap.size (by simp)).trans (heap_alloc_new w _)
    clear hb hg hcell HX
    go_wp2_with fail
    refine (outerM_calls g m.f0 m.f1 m.f2 _ HG.out).mono ?_
    rintro e w2 ⟨rfl, hb2⟩
    obtain ⟨hcell, hfree2⟩ := cells_inQ ((hb2.block _ (Array.getElem?_eq_some_iff.1 hblk).1).trans hblk)
    have p0 : w2.cell? ⟨w.heap.size, 0, none⟩ = some (.int .i64 0) := hcell 0
    have p1 : w2.cell? ⟨w.heap.size, 1, none⟩ = some (.string ⟨#[]⟩) := hcell 1
    have p2 : w2.cell? ⟨w.heap.size, 2, none⟩ = some (.string ⟨#[]⟩) := hcell 2
    have HB2 := Aside0.mk (below_step (below_step (below_alloc (Below.refl _ _) _) HB.out) hb2)
    clear hb2 hcell hblk q0 q1 q2 hfree
    go_wp2
    exact bodyPost_ret (v := .tuple #[.agg #[.int .i64 m.f0, .string m.f1, .string m.f2], .bool true]) (by simp [results, Tryz.results9, go_sem, p0, p1, p2]) rfl ⟨rfl, by repeat (first | (refine below_set ?_ (Nat.le_refl _)) | exact HB2.out)⟩
end Go.Proofs.YtnnhehlieakedaaGreatDoor.Q
