/- Plain words: a token's text, alone, is scanned as that token, and nothing behind it. No condition. -/
import Derived.Test.YtblcgkkncoojeaaDoorULexQ
import Derived.Test.YtblcgkkncoojeaaDoorHParKM
set_option linter.unusedVariables false
set_option linter.unusedSimpArgs false
namespace Go.Proofs.YtblcgkkncoojeaaDoor.Q
open Go.RowKit Go.Lib Go.Proofs.YtblcgkkncoojeaaDoorW.PrintWords Go.Proofs.YtblcgkkncoojeaaDoorW.PrintLast Go.Proofs.YtblcgkkncoojeaaDoorW.PrintMore
section
variable {s : ByteArray} {a b : Nat} {x x' y z : LSt}
theorem nextS_p (h : x.p = z.p) : (nextS s x).p = (nextS s z).p := by
  unfold nextS
  rw [h]
  split <;> simp [h]
theorem acS_true {c : ByteArray} (h : acB s x c = true) : acS s x c = nextS s x := by unfold acS; rw [if_pos h]
theorem acS_false {c : ByteArray} (h : acB s x c = false) : acS s x c = backS (nextS s x) := by unfold acS; rw [h, if_neg (by decide)]
theorem Sim.acIn (h : Sim s a b x x') (hb : b ≤ s.size) (hp : x.p < b) (hn : (nextS s x).p ≤ b) (c : ByteArray) : acB (s.extract a b) x' c = acB s x c ∧ Sim s a b (acS s x c) (acS (s.extract a b) x' c) := by
  have hs := h.step hb hp hn
  have e : acB (s.extract a b) x' c = acB s x c := by unfold acB; rw [hs.1]
  refine ⟨e, ?_⟩
  cases hc : acB s x c
  · rw [acS_false hc, acS_false (e.trans hc)]; exact back_sim h
  · rw [acS_true hc, acS_true (e.trans hc)]; exact hs.2
theorem Sim.acEnd (h : Sim s a b x x') (hb : b ≤ s.size) (hab : a ≤ b) (hp : x.p = b) (c : ByteArray) : acB (s.extract a b) x' c = false ∧ (acS (s.extract a b) x' c).p = x'.p := by
  have he := h.end_ hb hab hp
  have e : acB (s.extract a b) x' c = false := by unfold acB; rw [he.1]; exact hasR_neg c
  refine ⟨e, ?_⟩
  rw [acS_false e, back_p h.g']
theorem op_sim (h : Sim s a b x x') (hb : b ≤ s.size) (hab : a ≤ b) (k : Int) (hk : opF s x = (some k, y)) (hy : y.p = b) : ∃ y', opF (s.extract a b) x' = (some k, y') ∧ Sim s a b y y' := by
  have g1 := h.g.ac ⟨#[33]⟩
  have g2 := g1.ac ⟨#[61]⟩
  have l1 := acS_le h.g ⟨#[33]⟩
  have l2 := acS_le g1 ⟨#[61]⟩
  have l3 := acS_le g2 ⟨#[126]⟩
  cases h1 : acB s x ⟨#[33]⟩
  · have p1 : (acS s x ⟨#[33]⟩).p = x.p := by rw [acS_false h1, back_p h.g]
    cases h2 : acB s (acS s x ⟨#[33]⟩) ⟨#[61]⟩
    · unfold opF at hk
      rw [h1, h2] at hk
      simp at hk
    · have m2 := acS_lt g1 _ h2
      have e2 := acS_true h2
      have n1 : (nextS s x).p = (acS s (acS s x ⟨#[33]⟩) ⟨#[61]⟩).p := by rw [e2]; exact nextS_p p1.symm
      cases h3 : acB s (acS s (acS s x ⟨#[33]⟩) ⟨#[61]⟩) ⟨#[126]⟩
      · unfold opF at hk
        rw [h1, h2, h3] at hk
        simp only [Bool.false_eq_true, if_true, if_false] at hk
        obtain ⟨ek, ey⟩ := Prod.mk.inj hk
        have p3 : (acS s (acS s (acS s x ⟨#[33]⟩) ⟨#[61]⟩) ⟨#[126]⟩).p = (acS s (acS s x ⟨#[33]⟩) ⟨#[61]⟩).p := by rw [acS_false h3, back_p g2]
        have hb2 : (acS s (acS s x ⟨#[33]⟩) ⟨#[61]⟩).p = b := by rw [← p3, ey, hy]
        obtain ⟨q1, s1⟩ := h.acIn hb (by omega) (by omega) ⟨#[33]⟩
        obtain ⟨q2, s2⟩ := s1.acIn hb (by omega) (by rw [nextS_p p1]; omega) ⟨#[61]⟩
        obtain ⟨q3, s3⟩ := s2.acEnd hb hab hb2 ⟨#[126]⟩
        refine ⟨acS (s.extract a b) (acS (s.extract a b) (acS (s.extract a b) x' ⟨#[33]⟩) ⟨#[61]⟩) ⟨#[126]⟩, ?_, ⟨?_, by rw [← ey]; exact g2.ac _, s2.g'.ac _⟩⟩
        · unfold opF
          rw [q1, h1, q2, h2, q3]
          simp only [Bool.false_eq_true, if_true, if_false]
          rw [ek]
        · rw [s3, hy, ← hb2]; exact s2.p
      · have m3 := acS_lt g2 _ h3
        unfold opF at hk
        rw [h1, h2, h3] at hk
        simp only [Bool.false_eq_true, if_true, if_false] at hk
        obtain ⟨ek, ey⟩ := Prod.mk.inj hk
        have hb2 : (acS s (acS s (acS s x ⟨#[33]⟩) ⟨#[61]⟩) ⟨#[126]⟩).p = b := by rw [ey, hy]
        obtain ⟨q1, s1⟩ := h.acIn hb (by omega) (by omega) ⟨#[33]⟩
        obtain ⟨q2, s2⟩ := s1.acIn hb (by omega) (by rw [nextS_p p1]; omega) ⟨#[61]⟩
        obtain ⟨q3, s3⟩ := s2.acIn hb (by omega) (by rw [← acS_true h3]; omega) ⟨#[126]⟩
        refine ⟨acS (s.extract a b) (acS (s.extract a b) (acS (s.extract a b) x' ⟨#[33]⟩) ⟨#[61]⟩) ⟨#[126]⟩, ?_, by rw [← ey]; exact s3⟩
        unfold opF
        rw [q1, h1, q2, h2, q3, h3]
        simp only [Bool.false_eq_true, if_true, if_false]
        rw [ek]
  · have m1 := acS_lt h.g _ h1
    have e1 := acS_true h1
    cases h2 : acB s (acS s x ⟨#[33]⟩) ⟨#[61]⟩
    · have p2 : (acS s (acS s x ⟨#[33]⟩) ⟨#[61]⟩).p = (acS s x ⟨#[33]⟩).p := by rw [acS_false h2, back_p g1]
      cases h3 : acB s (acS s (acS s x ⟨#[33]⟩) ⟨#[61]⟩) ⟨#[126]⟩
      · unfold opF at hk
        rw [h1, h2, h3] at hk
        simp at hk
      · have m3 := acS_lt g2 _ h3
        unfold opF at hk
        rw [h1, h2, h3] at hk
        simp only [Bool.false_eq_true, if_true, if_false] at hk
        obtain ⟨ek, ey⟩ := Prod.mk.inj hk
        have hb2 : (acS s (acS s (acS s x ⟨#[33]⟩) ⟨#[61]⟩) ⟨#[126]⟩).p = b := by rw [ey, hy]
        have n2 : (nextS s (acS s x ⟨#[33]⟩)).p = b := by rw [nextS_p p2.symm, ← acS_true h3]; exact hb2
        obtain ⟨q1, s1⟩ := h.acIn hb (by omega) (by rw [← e1]; omega) ⟨#[33]⟩
        obtain ⟨q2, s2⟩ := s1.acIn hb (by omega) (by omega) ⟨#[61]⟩
        obtain ⟨q3, s3⟩ := s2.acIn hb (by omega) (by rw [← acS_true h3]; omega) ⟨#[126]⟩
        refine ⟨acS (s.extract a b) (acS (s.extract a b) (acS (s.extract a b) x' ⟨#[33]⟩) ⟨#[61]⟩) ⟨#[126]⟩, ?_, by rw [← ey]; exact s3⟩
        unfold opF
        rw [q1, h1, q2, h2, q3, h3]
        simp only [Bool.false_eq_true, if_true, if_false]
        rw [ek]
    · have m2 := acS_lt g1 _ h2
      unfold opF at hk
      rw [h1, h2] at hk
      simp only [Bool.false_eq_true, if_true, if_false] at hk
      obtain ⟨ek, ey⟩ := Prod.mk.inj hk
      have hb2 : (acS s (acS s x ⟨#[33]⟩) ⟨#[61]⟩).p = b := by rw [ey, hy]
      obtain ⟨q1, s1⟩ := h.acIn hb (by omega) (by rw [← e1]; omega) ⟨#[33]⟩
      obtain ⟨q2, s2⟩ := s1.acIn hb (by omega) (by rw [← acS_true h2]; omega) ⟨#[61]⟩
      refine ⟨acS (s.extract a b) (acS (s.extract a b) x' ⟨#[33]⟩) ⟨#[61]⟩, ?_, by rw [← ey]; exact s2⟩
      unfold opF
      rw [q1, h1, q2, h2]
      simp only [if_true]
      rw [ek]
theorem quo_sim (h : Sim s a b x x') (hb : b ≤ s.size) (hab : a ≤ b) (k : Int) (hk : quoF s x = (some k, y)) (hy : y.p = b) : ∃ y', quoF (s.extract a b) x' = (some k, y') ∧ Sim s a b y y' := by
  have hz := part_size (s := s) (a := a) hb
  have g1 := h.g.ac ⟨#[34]⟩
  have gq := LGd.quot (s.size + 1) false g1
  have lq := quotS_le (s.size + 1) false g1
  have h0 := h.g'.s0; have h01 := h.g'.s1
  cases h1 : acB s x ⟨#[34]⟩
  · unfold quoF at hk
    rw [h1] at hk
    simp at hk
  · have m1 := acS_lt h.g _ h1
    unfold quoF at hk
    rw [h1, if_pos rfl] at hk
    obtain ⟨ek, ey⟩ := Prod.mk.inj hk
    cases h2 : acB s (quotS s (s.size + 1) false (acS s x ⟨#[34]⟩)) ⟨#[34]⟩
    · rw [h2] at ek; simp at ek
    · rw [h2, if_pos rfl] at ek
      have m2 := acS_lt gq _ h2
      have hb2 : (acS s (quotS s (s.size + 1) false (acS s x ⟨#[34]⟩)) ⟨#[34]⟩).p = b := by rw [ey, hy]
      obtain ⟨q1, s1⟩ := h.acIn hb (by omega) (by rw [← acS_true h1]; omega) ⟨#[34]⟩
      have hxp := h.p
      have sq := quot_sim hb _ (s.size + 1) ((s.extract a b).size + 1) false _ _ s1 (by omega) (by rw [hz]; have := s1.p; have := s1.g'.s0; have := s1.g'.s1; omega) (Nat.le_refl _) (by omega)
      obtain ⟨q2, s2⟩ := sq.acIn hb (by omega) (by rw [← acS_true h2]; omega) ⟨#[34]⟩
      refine ⟨acS (s.extract a b) (quotS (s.extract a b) ((s.extract a b).size + 1) false (acS (s.extract a b) x' ⟨#[34]⟩)) ⟨#[34]⟩, ?_, by rw [← ey]; exact s2⟩
      unfold quoF
      rw [q1, h1, if_pos rfl, q2, h2, if_pos rfl, ek]
theorem same_op : Same x (opF s x).2 := by
  have a1 := same_ac s x ⟨#[33]⟩
  have a2 := a1.trans (same_ac s (acS s x ⟨#[33]⟩) ⟨#[61]⟩)
  have a3 := a2.trans (same_ac s (acS s (acS s x ⟨#[33]⟩) ⟨#[61]⟩) ⟨#[126]⟩)
  unfold opF
  repeat' split
  all_goals first | exact a3 | exact a2
theorem same_quo : Same x (quoF s x).2 := by
  have a1 := same_ac s x ⟨#[34]⟩
  unfold quoF
  split
  · exact (a1.trans (same_quot s _ _ _)).trans (same_ac s _ _)
  · exact a1
theorem of_mk {o : Option Int × LSt} {k : Int} (h : Sc.of o.1 = .tok k) : o = (some k, o.2) := by
  obtain ⟨o1, o2⟩ := o
  have : o1 = some k := of_tok h
  rw [this]
theorem scan1_sim (h : LGd s x) (k : Int) (hc : scan1 s x = some (.tok k, y)) (ha : x.p = (a : Int)) (hbp : y.p = (b : Int)) (hx' : LGd (s.extract a b) lx0) :
    ∃ y', scan1 (s.extract a b) lx0 = some (.tok k, y') ∧ Sim s a b y y' ∧ Same lx0 y' := by
  have hgood := scan1_good h (.tok k) hc
  have hlt := (hgood.2 k rfl).1
  have hyp := hgood.1.p1
  have hb : b ≤ s.size := by omega
  have hab : a ≤ b := by omega
  have hz := part_size (s := s) (a := a) hb
  have S0 : Sim s a b x lx0 := ⟨by rw [ha]; show (a : Int) = a + 0; omega, h, hx'⟩
  unfold scan1 at hc
  simp only at hc
  by_cases h1 : nextR s x.p = -1
  · rw [if_pos h1] at hc; simp at hc
  rw [if_neg h1] at hc
  have SB := back_sim S0
  have hbpx := back_p h
  have one : ∀ j : Int, some (Sc.tok j, nextS s x) = some (Sc.tok k, y) → (∀ r, r = nextR s x.p → nextR (s.extract a b) lx0.p = r → scan1 (s.extract a b) lx0 = some (Sc.tok j, nextS (s.extract a b) lx0)) → ∃ y', scan1 (s.extract a b) lx0 = some (.tok k, y') ∧ Sim s a b y y' ∧ Same lx0 y' := fun j e hs => by
    obtain ⟨e1, e2⟩ := Prod.mk.inj (Option.some.inj e)
    have st := S0.step hb (by omega) (by rw [e2]; omega)
    refine ⟨_, (hs _ rfl st.1).trans (by rw [e1]), by rw [← e2]; exact st.2, same_next _ _⟩
  by_cases h2 : nextR s x.p = 123
  · rw [if_pos h2] at hc
    exact one 1 hc (fun r e e2 => by unfold scan1; simp only [e2.trans (e.trans h2)]; rfl)
  rw [if_neg h2] at hc
  by_cases h3 : nextR s x.p = 125
  · rw [if_pos h3] at hc
    exact one 2 hc (fun r e e2 => by unfold scan1; simp only [e2.trans (e.trans h3)]; rfl)
  rw [if_neg h3] at hc
  by_cases h4 : nextR s x.p = 44
  · rw [if_pos h4] at hc
    exact one 3 hc (fun r e e2 => by unfold scan1; simp only [e2.trans (e.trans h4)]; rfl)
  rw [if_neg h4] at hc
  -- the first character lies within the token
  have hfirst : (nextS s x).p ≤ b → nextR (s.extract a b) lx0.p = nextR s x.p := fun hn => (S0.step hb (by omega) hn).1
  by_cases h5 : nextR s x.p = 61 ∨ nextR s x.p = 33
  · rw [if_pos h5] at hc
    obtain ⟨e1, e2⟩ := Prod.mk.inj (Option.some.inj hc)
    have em := of_mk e1
    rw [e2] at em
    obtain ⟨y', hy', hs⟩ := op_sim SB hb hab k em hbp
    have hn1 : (nextS s x).p = x.p + 1 := next_one h (by omega) (by omega)
    have hr := hfirst (by omega)
    refine ⟨y', ?_, hs, ?_⟩
    · unfold scan1
      simp only [hr]
      rw [if_neg h1, if_neg h2, if_neg h3, if_neg h4, if_pos h5, hy']
      rfl
    · have := same_op (s := s.extract a b) (x := backS (nextS (s.extract a b) lx0))
      rw [hy'] at this
      exact ((same_next _ _).trans (same_back _)).trans this
  rw [if_neg h5] at hc
  by_cases h6 : nextR s x.p = 34
  · rw [if_pos h6] at hc
    obtain ⟨e1, e2⟩ := Prod.mk.inj (Option.some.inj hc)
    have em := of_mk e1
    rw [e2] at em
    obtain ⟨y', hy', hs⟩ := quo_sim SB hb hab k em hbp
    have hn1 : (nextS s x).p = x.p + 1 := next_one h (by omega) (by omega)
    have hr := hfirst (by omega)
    refine ⟨y', ?_, hs, ?_⟩
    · unfold scan1
      simp only [hr]
      rw [if_neg h1, if_neg h2, if_neg h3, if_neg h4, if_neg h5, if_pos h6, hy']
      rfl
    · have := same_quo (s := s.extract a b) (x := backS (nextS (s.extract a b) lx0))
      rw [hy'] at this
      exact ((same_next _ _).trans (same_back _)).trans this
  rw [if_neg h6] at hc
  by_cases h7 : resR (nextR s x.p) = false
  · rw [if_pos h7] at hc
    obtain ⟨e1, e2⟩ := Prod.mk.inj (Option.some.inj hc)
    have hbx : (backS (nextS s x)).p = x.p := hbpx
    have s0 := h.s0; have s1 := h.s1
    have hw := word_sim hb hab _ (s.size + 1) ((s.extract a b).size + 1) _ _ SB (by omega) (by rw [hz, hbx]; omega) (Nat.le_refl _) (by rw [hbx]; omega) (by rw [e2]; exact hbp)
    have hn1 : (nextS s x).p ≤ b := by
      have hw1 : wordS s (s.size + 1) (backS (nextS s x)) = wordS s s.size (nextS s (backS (nextS s x))) := by rw [wordS, hbx, if_neg h1, h7, if_neg (by decide)]
      have hle := wordS_le s.size (h.back.next)
      rw [← hw1, e2] at hle
      rw [nextS_p hbx] at hle
      omega
    have hr := hfirst hn1
    refine ⟨wordS (s.extract a b) ((s.extract a b).size + 1) (backS (nextS (s.extract a b) lx0)), ?_, by rw [← e2]; exact hw, ((same_next _ _).trans (same_back _)).trans (same_word _ _ _)⟩
    unfold scan1
    simp only [hr]
    rw [if_neg h1, if_neg h2, if_neg h3, if_neg h4, if_neg h5, if_neg h6, if_pos h7]
    obtain rfl := Sc.tok.inj e1
    rfl
  rw [if_neg h7] at hc
  split at hc <;> simp at hc
theorem scan_to (k : Int) : ∀ (n : Nat) (x : LSt), LGd s x → x.st = x.p → scanF s n x = (.tok k, y) → ∃ x1, LGd s x1 ∧ x1.st = x1.p ∧ scan1 s x1 = some (.tok k, y)
  | 0, x, _, _, e => by cases (Prod.mk.inj e).1
  | n + 1, x, h, hst, e => by
    have e' : (match scan1 s x with | some z => z | none => scanF s n (skipS (nextS s x))) = (.tok k, y) := e
    cases hs : scan1 s x with
    | some z =>
      rw [hs] at e'
      simp only at e'
      rw [e'] at hs
      exact ⟨x, h, hst, hs⟩
    | none =>
      rw [hs] at e'
      exact scan_to k n _ h.next.skip rfl e'
theorem scan1_same (k : Int) (hc : scan1 s x = some (.tok k, y)) : Same x y := by
  unfold scan1 at hc
  simp only at hc
  have sb : Same x (backS (nextS s x)) := (same_next s x).trans (same_back _)
  repeat' split at hc
  all_goals first
    | (obtain ⟨_, e⟩ := Prod.mk.inj (Option.some.inj hc); rw [← e]; first | exact same_next s x | exact sb.trans same_op | exact sb.trans same_quo | exact sb.trans (same_word s _ _))
    | (cases hc)
/-- The text of a token, alone. -/
theorem tok_alone (h : LGd s x) (hst : x.st = x.p) (k : Int) (hc : scanF s (s.size + 1) x = (.tok k, y)) (m : Nat) (hm : 2 ≤ m) :
    toksF (s.extract y.st.toNat y.p.toNat) m lx0 = ([tokD (s.extract y.st.toNat y.p.toNat) k ⟨0, (s.extract y.st.toNat y.p.toNat).size, 0, 0, ((toksF (s.extract y.st.toNat y.p.toNat) m lx0).1.headD ⟨0, ⟨#[]⟩, 0, 0, 0, 0⟩).f5⟩], true) := by
  obtain ⟨x1, g1, st1, h1⟩ := scan_to k _ x h hst hc
  have hgood := scan1_good g1 (.tok k) h1
  have hlt := (hgood.2 k rfl).1
  have hsame := scan1_same k h1
  have s0 := g1.s0
  have yst : y.st = x1.p := hsame.1.trans st1
  obtain ⟨a, ha⟩ : ∃ a : Nat, x1.p = a := ⟨x1.p.toNat, by omega⟩
  obtain ⟨b, hb⟩ : ∃ b : Nat, y.p = b := ⟨y.p.toNat, by omega⟩
  have ea : y.st.toNat = a := by omega
  have eb : y.p.toNat = b := by omega
  rw [ea, eb]
  have hyp := hgood.1.p1
  have hbs : b ≤ s.size := by omega
  have hz := part_size (s := s) (a := a) hbs
  have hbig := h.big
  have hx' : LGd (s.extract a b) lx0 := ⟨by show (0 : Int) ≤ _; omega, by decide, by decide, by decide, by decide, by decide, by decide, by decide, by omega⟩
  obtain ⟨y', hy', hs, hsm⟩ := scan1_sim g1 k h1 ha hb hx'
  have hyp' : y'.p = ((s.extract a b).size : Int) := by have := hs.p; omega
  have hs1 : scanF (s.extract a b) ((s.extract a b).size + 1) lx0 = (.tok k, y') := by rw [scanF, hy']
  have he : scanF (s.extract a b) ((s.extract a b).size + 1) (emitS y') = (.eof, nextS (s.extract a b) (emitS y')) := by
    have hr : nextR (s.extract a b) (emitS y').p = -1 := (nextR_end hs.g'.emit).2 hyp'
    rw [scanF]
    unfold scan1
    simp only [hr, if_true]
  obtain ⟨m, rfl⟩ : ∃ j, m = j + 2 := ⟨m - 2, by omega⟩
  have ht : toksF (s.extract a b) (m + 2) lx0 = ([tokD (s.extract a b) k y'], true) := by
    rw [toksF, hs1]
    simp only
    rw [toksF, he]
  rw [ht]
  obtain ⟨y1, y2, y3, y4, y5⟩ := y'
  obtain ⟨e1, e2⟩ := hsm
  have e1 : y1 = 0 := e1
  have e2 : y4 = 0 := e2
  have e3 : y2 = ((s.extract a b).size : Int) := hyp'
  subst e1 e2 e3
  rfl
end
end Go.Proofs.YtblcgkkncoojeaaDoor.Q
