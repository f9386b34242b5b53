/- Plain words: the tokens of a text that lies within a longer one, ahead of a comma or a closing brace or at its end. No condition. Plain words: the grammar of matchers over tokens: what the parser computes of a text is what the grammar computes of its tokens; braces around a list; one list behind another. No condition. Plain words: the tokens of a text in braces and of two texts with a comma between; what the grammar makes of them. No condition. -/
import Derived.Test.YtnnhehlieakedaaGreatDoorHParKM
import Derived.Test.YtnnhehlieakedaaGreatDoorULexQR
import Derived.Test.YtnnhehlieakedaaGreatDoorHParseM
namespace Go.Proofs.YtnnhehlieakedaaGreatDoor.Q
open Go.RowKit Go.Lib Go.Proofs.YtnnhehlieakedaaGreatDoorW.PrintWords Go.Proofs.YtnnhehlieakedaaGreatDoorW.PrintLast Go.Proofs.YtnnhehlieakedaaGreatDoorW.PrintMore
/-- The kinds and texts of the tokens from a state on; true: up to the text's end. -/
inductive TK (s : ByteArray) : LSt → List (Int × ByteArray) → Bool → Prop
  | eof {x y : LSt} (h : pkT s x = (.eof, y)) : TK s x [] true
  | bad {x y : LSt} (h : pkT s x = (.bad, y)) : TK s x [] false
  | tok {x y : LSt} {k : Int} {l : List (Int × ByteArray)} {ok : Bool} (h : pkT s x = (.tok k, y)) (t : TK s (emitS y) l ok) : TK s x ((k, tokS s y) :: l) ok
section
variable {s s' : ByteArray} {n : Nat} {x x' y : LSt}
theorem TK.same {x x' : LSt} {l : List (Int × ByteArray)} {ok : Bool} (h : TK s x l ok) (e : pkT s x' = pkT s x) : TK s x' l ok := by
  cases h with
  | eof h => exact .eof (e.trans h)
  | bad h => exact .bad (e.trans h)
  | tok h t => exact .tok (e.trans h) t
theorem scan1_none (h : LGd s x) (hc : scan1 s x = none) : nextR s x.p ≠ -1 ∧ Lib.isSpaceZ (nextR s x.p) = true ∧ resR (nextR s x.p) = true := by
  unfold scan1 at hc
  simp only at hc
  by_cases h1 : nextR s x.p = -1
  · rw [if_pos h1] at hc; cases hc
  rw [if_neg h1] at hc
  refine ⟨h1, ?_⟩
  repeat' split at hc
  all_goals first | (cases hc; done) | (rename_i h7 h8; exact ⟨h8, by simpa using h7⟩)
theorem scanF_fuel : ∀ (k k' : Nat) (x : LSt), LGd s x → s.size - x.p.toNat < k → s.size - x.p.toNat < k' → scanF s k x = scanF s k' x
  | 0, _, _, _, h, _ => absurd h (by omega)
  | _, 0, _, _, _, h => absurd h (by omega)
  | k + 1, k' + 1, x, g, h, h' => by
    rw [scanF, scanF]
    cases hs : scan1 s x with
    | some z => rfl
    | none =>
      have hn := scan1_none g hs
      have hon := (nextS_on g hn.1).1
      have hp := g.next.p1
      have h0 := g.s0
      have h1 := g.s1
      have e : (skipS (nextS s x)).p = (nextS s x).p := rfl
      exact scanF_fuel k k' _ g.next.skip (by rw [e]; omega) (by rw [e]; omega)
/-- A text within a longer one: behind n bytes, at its end or ahead of a comma or a brace. -/
structure Emb (s s' : ByteArray) (n : Nat) : Prop where
  dec : ∀ p : Nat, p < s.size → Utf8.decode s' (n + p) = Utf8.decode s p
  sz : n + s.size ≤ s'.size
  stop : n + s.size < s'.size → nextR s' ((n + s.size : Nat) : Int) = 44 ∨ nextR s' ((n + s.size : Nat) : Int) = 125
  ex : ∀ a b : Nat, b ≤ s.size → s'.extract (n + a) (n + b) = s.extract a b
structure Rl (s s' : ByteArray) (n : Nat) (x x' : LSt) : Prop where
  p : x'.p = (n : Int) + x.p
  st : x'.st = (n : Int) + x.st
  g : LGd s x
  g' : LGd s' x'
theorem Rl.step (E : Emb s s' n) (h : Rl s s' n x x') (hp : x.p < s.size) : nextR s' x'.p = nextR s x.p ∧ Rl s s' n (nextS s x) (nextS s' x') := by
  have h0 := h.g.s0; have h1 := h.g.s1; have e := h.p; have es := h.st; have hz := E.sz
  have ep : x'.p.toNat = n + x.p.toNat := by omega
  have q1 : x.p.toNat < s.size := by omega
  have q2 : n + x.p.toNat < s'.size := by omega
  have hd := E.dec x.p.toNat q1
  refine ⟨?_, ?_, ?_, h.g.next, h.g'.next⟩
  · unfold nextR
    rw [ep, if_pos q1, if_pos q2, hd]
  · unfold nextS
    rw [ep, if_pos q1, if_pos q2, hd]
    simp only
    omega
  · have a := (same_next s x).1
    have b := (same_next s' x').1
    omega
theorem Rl.back (h : Rl s s' n x x') : Rl s s' n (backS (nextS s x)) (backS (nextS s' x')) :=
  ⟨by rw [back_p h.g, back_p h.g']; exact h.p, by have a := ((same_next s x).trans (same_back _)).1; have b := ((same_next s' x').trans (same_back _)).1; have := h.st; omega, h.g.back, h.g'.back⟩
theorem Rl.atEnd (E : Emb s s' n) (h : Rl s s' n x x') (hp : ¬ x.p < s.size) : nextR s x.p = -1 ∧ (nextR s' x'.p = -1 ∨ nextR s' x'.p = 44 ∨ nextR s' x'.p = 125) ∧ (nextS s x).p = x.p ∧ x'.p = ((n + s.size : Nat) : Int) := by
  have h0 := h.g.s0; have h1 := h.g.s1; have e := h.p; have hz := E.sz; have hp1 := h.g.p1
  have hx : x.p = s.size := by omega
  have ex : x'.p = ((n + s.size : Nat) : Int) := by omega
  refine ⟨(nextR_end h.g).2 hx, ?_, ?_, ex⟩
  · by_cases hq : n + s.size < s'.size
    · rw [ex]; exact Or.inr (E.stop hq)
    · exact Or.inl ((nextR_end h.g').2 (by omega))
  · unfold nextS
    rw [if_neg (by omega)]
theorem Rl.endBack (E : Emb s s' n) (h : Rl s s' n x x') (hp : ¬ x.p < s.size) : Rl s s' n (nextS s x) (backS (nextS s' x')) := by
  have he := h.atEnd E hp
  exact ⟨by rw [back_p h.g', he.2.2.1]; exact h.p, by have a := (same_next s x).1; have b := ((same_next s' x').trans (same_back _)).1; have := h.st; omega, h.g.next, h.g'.back⟩
theorem Rl.endNext (E : Emb s s' n) (h : Rl s s' n x x') (hp : ¬ x.p < s.size) (he : nextR s' x'.p = -1) : Rl s s' n (nextS s x) (nextS s' x') := by
  have hx := h.atEnd E hp
  have e' : (nextS s' x').p = x'.p := by
    have := (nextR_end h.g').1 he
    unfold nextS
    rw [if_neg (by omega)]
  exact ⟨by rw [e', hx.2.2.1]; exact h.p, by have a := (same_next s x).1; have b := (same_next s' x').1; have := h.st; omega, h.g.next, h.g'.next⟩
theorem Rl.ac (E : Emb s s' n) (h : Rl s s' n x x') (c : ByteArray) (h44 : hasR c 44 = false) (h125 : hasR c 125 = false) : acB s' x' c = acB s x c ∧ Rl s s' n (acS s x c) (acS s' x' c) := by
  by_cases hp : x.p < s.size
  · have hs := h.step E hp
    have e : acB s' x' c = acB s x c := by unfold acB; rw [hs.1]
    refine ⟨e, ?_⟩
    cases hc : acB s x c
    · rw [acS_false hc, acS_false (e.trans hc)]; exact h.back
    · rw [acS_true hc, acS_true (e.trans hc)]; exact hs.2
  · have he := h.atEnd E hp
    have e1 : acB s x c = false := by unfold acB; rw [he.1]; exact hasR_neg c
    have e2 : acB s' x' c = false := by
      unfold acB
      rcases he.2.1 with q | q | q <;> rw [q]
      · exact hasR_neg c
      · exact h44
      · exact h125
    refine ⟨e2.trans e1.symm, ?_⟩
    rw [acS_false e1, acS_false e2]
    exact h.back
theorem Rl.op (E : Emb s s' n) (h : Rl s s' n x x') : (opF s' x').1 = (opF s x).1 ∧ Rl s s' n (opF s x).2 (opF s' x').2 := by
  obtain ⟨b1, r1⟩ := h.ac E ⟨#[33]⟩ (by kernel_rfl) (by kernel_rfl)
  obtain ⟨b2, r2⟩ := r1.ac E ⟨#[61]⟩ (by kernel_rfl) (by kernel_rfl)
  obtain ⟨b3, r3⟩ := r2.ac E ⟨#[126]⟩ (by kernel_rfl) (by kernel_rfl)
  unfold opF
  rw [b1, b2, b3]
  repeat' split
  all_goals first | exact ⟨rfl, r3⟩ | exact ⟨rfl, r2⟩
theorem Rl.word (E : Emb s s' n) : ∀ (k k' : Nat) (x x' : LSt), Rl s s' n x x' → s.size - x.p.toNat < k → s'.size - x'.p.toNat < k' → Rl s s' n (wordS s k x) (wordS s' k' x')
  | 0, _, _, _, _, h, _ => absurd h (by omega)
  | _, 0, _, _, _, _, h => absurd h (by omega)
  | k + 1, k' + 1, x, x', h, hk, hk' => by
    have h0 := h.g.s0; have h1 := h.g.s1; have e := h.p
    rw [wordS, wordS]
    by_cases hp : x.p < s.size
    · have hs := h.step E hp
      have hr : nextR s x.p ≠ -1 := fun q => by have := (nextR_end h.g).1 q; omega
      rw [hs.1, if_neg hr, if_neg hr]
      by_cases hres : resR (nextR s x.p) = true
      · rw [if_pos hres, if_pos hres]; exact h.back
      · rw [if_neg hres, if_neg hres]
        have hon := (nextS_on h.g hr).1
        have hp1 := h.g.next.p1
        have hp1' := h.g'.next.p1
        have e2 := hs.2.p
        exact Rl.word E k k' _ _ hs.2 (by omega) (by omega)
    · have he := h.atEnd E hp
      rw [if_pos he.1]
      rcases he.2.1 with q | q | q
      · rw [if_pos q]; exact h.endNext E hp q
      · rw [q, if_neg (by decide), if_pos (by kernel_rfl)]; exact h.endBack E hp
      · rw [q, if_neg (by decide), if_pos (by kernel_rfl)]; exact h.endBack E hp
theorem Rl.quot (E : Emb s s' n) : ∀ (k k' : Nat) (esc : Bool) (x x' : LSt), Rl s s' n x x' → s.size - x.p.toNat < k → s'.size - x'.p.toNat < k' → (quotS s k esc x).p < s.size → Rl s s' n (quotS s k esc x) (quotS s' k' esc x')
  | 0, _, _, _, _, _, h, _, _ => absurd h (by omega)
  | _, 0, _, _, _, _, _, h, _ => absurd h (by omega)
  | k + 1, k' + 1, esc, x, x', h, hk, hk', hf => by
    have h0 := h.g.s0; have h1 := h.g.s1; have e := h.p
    have hle := quotS_le (k + 1) esc h.g
    have hp : x.p < s.size := by omega
    have hs := h.step E hp
    have hr : nextR s x.p ≠ -1 := fun q => by have := (nextR_end h.g).1 q; omega
    have hon := (nextS_on h.g hr).1
    have hp1 := h.g.next.p1
    have hp1' := h.g'.next.p1
    have e2 := hs.2.p
    rw [quotS, if_neg hr] at hf ⊢
    rw [quotS, hs.1, if_neg hr]
    cases esc
    · simp only [Bool.false_eq_true, if_false] at hf ⊢
      by_cases h92 : nextR s x.p = 92
      · rw [if_pos h92] at hf ⊢
        rw [if_pos h92]
        exact Rl.quot E k k' true _ _ hs.2 (by omega) (by omega) hf
      · rw [if_neg h92] at hf ⊢
        rw [if_neg h92]
        by_cases h34 : nextR s x.p = 34
        · rw [if_pos h34] at hf ⊢
          rw [if_pos h34]
          exact h.back
        · rw [if_neg h34] at hf ⊢
          rw [if_neg h34]
          exact Rl.quot E k k' false _ _ hs.2 (by omega) (by omega) hf
    · simp only [if_true] at hf ⊢
      exact Rl.quot E k k' false _ _ hs.2 (by omega) (by omega) hf
theorem Rl.quo (E : Emb s s' n) (h : Rl s s' n x x') (k : Int) (hk : (quoF s x).1 = some k) : (quoF s' x').1 = some k ∧ Rl s s' n (quoF s x).2 (quoF s' x').2 := by
  obtain ⟨b1, r1⟩ := h.ac E ⟨#[34]⟩ (by kernel_rfl) (by kernel_rfl)
  have h0 := r1.g.s0; have h1 := r1.g.s1; have e := r1.p; have hz := E.sz; have hp1 := r1.g'.p1
  unfold quoF at hk ⊢
  rw [b1]
  cases hb : acB s x ⟨#[34]⟩
  · rw [hb] at hk; simp at hk
  · rw [hb, if_pos rfl] at hk
    rw [if_pos rfl]
    cases h2 : acB s (quotS s (s.size + 1) false (acS s x ⟨#[34]⟩)) ⟨#[34]⟩
    · rw [h2] at hk; simp at hk
    · rw [h2] at hk
      have gq := LGd.quot (s.size + 1) false r1.g
      have m2 := acS_lt gq _ h2
      have hlt : (quotS s (s.size + 1) false (acS s x ⟨#[34]⟩)).p < s.size := by
        have := (gq.ac ⟨#[34]⟩).p1
        omega
      have rq := Rl.quot E (s.size + 1) (s'.size + 1) false _ _ r1 (by omega) (by omega) hlt
      obtain ⟨b3, r3⟩ := rq.ac E ⟨#[34]⟩ (by kernel_rfl) (by kernel_rfl)
      simp only [b3, h2, if_true]
      exact ⟨hk, r3⟩
theorem Rl.scan1 (E : Emb s s' n) (h : Rl s s' n x x') (hp : x.p < s.size) :
    (∀ k y, scan1 s x = some (.tok k, y) → ∃ y', scan1 s' x' = some (.tok k, y') ∧ Rl s s' n y y') ∧ (scan1 s x = none → scan1 s' x' = none ∧ Rl s s' n (skipS (nextS s x)) (skipS (nextS s' x'))) := by
  have hs := h.step E hp
  have hr : nextR s x.p ≠ -1 := fun q => by have := (nextR_end h.g).1 q; omega
  have hb := h.back
  have h0 := h.g.s0; have h1 := h.g.s1; have e := h.p
  have ebp := back_p h.g
  have ebp' := back_p h.g'
  have hzz := E.sz
  refine ⟨fun k y hc => ?_, fun hc => ?_⟩
  · unfold Q.scan1 at hc ⊢
    simp only [hs.1] at hc ⊢
    rw [if_neg hr] at hc ⊢
    have one : ∀ j : Int, some (Sc.tok j, nextS s x) = some (Sc.tok k, y) → ∃ y', some (Sc.tok j, nextS s' x') = some (Sc.tok k, y') ∧ Rl s s' n y y' := fun j e => by
      obtain ⟨e1, e2⟩ := Prod.mk.inj (Option.some.inj e)
      exact ⟨_, by rw [e1], by rw [← e2]; exact hs.2⟩
    by_cases h2 : nextR s x.p = 123
    · rw [if_pos h2] at hc ⊢; exact one 1 hc
    rw [if_neg h2] at hc ⊢
    by_cases h3 : nextR s x.p = 125
    · rw [if_pos h3] at hc ⊢; exact one 2 hc
    rw [if_neg h3] at hc ⊢
    by_cases h4 : nextR s x.p = 44
    · rw [if_pos h4] at hc ⊢; exact one 3 hc
    rw [if_neg h4] at hc ⊢
    by_cases h5 : nextR s x.p = 61 ∨ nextR s x.p = 33
    · rw [if_pos h5] at hc ⊢
      obtain ⟨e1, e2⟩ := Prod.mk.inj (Option.some.inj hc)
      have ho := hb.op E
      exact ⟨_, by rw [ho.1, e1], by rw [← e2]; exact ho.2⟩
    rw [if_neg h5] at hc ⊢
    by_cases h6 : nextR s x.p = 34
    · rw [if_pos h6] at hc ⊢
      obtain ⟨e1, e2⟩ := Prod.mk.inj (Option.some.inj hc)
      have ho := hb.quo E k (of_tok e1)
      exact ⟨_, by rw [ho.1]; rfl, by rw [← e2]; exact ho.2⟩
    rw [if_neg h6] at hc ⊢
    by_cases h7 : resR (nextR s x.p) = false
    · rw [if_pos h7] at hc ⊢
      obtain ⟨e1, e2⟩ := Prod.mk.inj (Option.some.inj hc)
      exact ⟨_, by rw [e1], by rw [← e2]; exact Rl.word E _ _ _ _ hb (by omega) (by omega)⟩
    rw [if_neg h7] at hc
    split at hc <;> simp at hc
  · have hn := scan1_none h.g hc
    have h4 : nextR s x.p ≠ 123 ∧ nextR s x.p ≠ 125 ∧ nextR s x.p ≠ 44 ∧ ¬ (nextR s x.p = 61 ∨ nextR s x.p = 33) ∧ nextR s x.p ≠ 34 := by
      unfold Q.scan1 at hc
      simp only at hc
      rw [if_neg hr] at hc
      repeat' split at hc
      all_goals first | (cases hc; done) | exact ⟨by assumption, by assumption, by assumption, by assumption, by assumption⟩
    refine ⟨?_, ?_⟩
    · unfold Q.scan1
      simp only [hs.1]
      rw [if_neg hr, if_neg h4.1, if_neg h4.2.1, if_neg h4.2.2.1, if_neg h4.2.2.2.1, if_neg h4.2.2.2.2, if_neg (by rw [hn.2.2]; decide), if_pos hn.2.1]
    · exact ⟨hs.2.p, hs.2.p, hs.2.g.skip, hs.2.g'.skip⟩
theorem Rl.emit {y y' : LSt} (h : Rl s s' n y y') : Rl s s' n (emitS y) (emitS y') := ⟨h.p, h.p, h.g.emit, h.g'.emit⟩
theorem Rl.scan (E : Emb s s' n) : ∀ (k k' : Nat) (x x' : LSt), Rl s s' n x x' → s.size - x.p.toNat < k → s'.size - x'.p.toNat < k' →
    (∀ j y, scanF s k x = (.tok j, y) → ∃ y', scanF s' k' x' = (.tok j, y') ∧ Rl s s' n y y') ∧ (∀ y, scanF s k x = (.eof, y) → ∃ x1 k1, scanF s' k' x' = scanF s' k1 x1 ∧ x1.p = ((n + s.size : Nat) : Int) ∧ (x'.st = x'.p → x1.st = x1.p) ∧ LGd s' x1 ∧ s'.size - x1.p.toNat < k1)
  | 0, _, _, _, _, h, _ => absurd h (by omega)
  | _, 0, _, _, _, _, h => absurd h (by omega)
  | k + 1, k' + 1, x, x', h, hk, hk' => by
    have h0 := h.g.s0; have h1 := h.g.s1; have e := h.p
    by_cases hp : x.p < s.size
    · have hr : nextR s x.p ≠ -1 := fun q => by have := (nextR_end h.g).1 q; omega
      have hs := h.scan1 E hp
      have hon := (nextS_on h.g hr).1
      have hp1 := h.g.next.p1
      have hp1' := h.g'.next.p1
      have e2 := (h.step E hp).2.p
      rw [scanF, scanF]
      cases hc : Q.scan1 s x with
      | some z =>
        simp only
        refine ⟨fun j y ez => ?_, fun y ez => ?_⟩
        · subst ez
          obtain ⟨y', q1, q2⟩ := hs.1 j y hc
          rw [q1]
          exact ⟨y', rfl, q2⟩
        · subst ez
          exfalso
          unfold Q.scan1 at hc
          simp only at hc
          rw [if_neg hr] at hc
          repeat' split at hc
          all_goals first | (cases hc; done) | (have := (Prod.mk.inj (Option.some.inj hc)).1; revert this; cases (opF s (backS (nextS s x))).1 <;> intro q <;> cases q; done) | (have := (Prod.mk.inj (Option.some.inj hc)).1; revert this; cases (quoF s (backS (nextS s x))).1 <;> intro q <;> cases q; done)
      | none =>
        obtain ⟨q1, q2⟩ := hs.2 hc
        rw [q1]
        simp only
        have ez : (skipS (nextS s x)).p = (nextS s x).p := rfl
        have ez' : (skipS (nextS s' x')).p = (nextS s' x').p := rfl
        have ih := Rl.scan E k k' _ _ q2 (by rw [ez]; omega) (by rw [ez']; omega)
        refine ⟨ih.1, fun y ey => ?_⟩
        obtain ⟨x1, k1, z1, z2, z3, z4, z5⟩ := ih.2 y ey
        exact ⟨x1, k1, z1, z2, fun _ => z3 rfl, z4, z5⟩
    · have he := h.atEnd E hp
      refine ⟨fun j y q => ?_, fun y q => ⟨x', k' + 1, rfl, he.2.2.2, fun z => z, h.g', hk'⟩⟩
      exfalso
      rw [scanF] at q
      unfold Q.scan1 at q
      simp only [he.1, if_true] at q
      cases (Prod.mk.inj q).1
theorem Rl.text (E : Emb s s' n) (h : Rl s s' n x x') : tokS s' x' = tokS s x := by
  have h0 := h.g.s0; have h1 := h.g.s1; have e := h.p; have es := h.st; have hp1 := h.g.p1
  unfold tokS
  have a1 : x'.st.toNat = n + x.st.toNat := by omega
  have a2 : x'.p.toNat = n + x.p.toNat := by omega
  rw [a1, a2]
  exact E.ex _ _ (by omega)
/-- The tokens of the part, and then those of what follows it. -/
theorem TK.emb (E : Emb s s' n) {l : List (Int × ByteArray)} {ok : Bool} (t : TK s x l ok) : ∀ {x' : LSt}, ok = true → Rl s s' n x x' → x'.st = x'.p → ∃ x1, x1.p = ((n + s.size : Nat) : Int) ∧ x1.st = x1.p ∧ LGd s' x1 ∧ ∀ l' ok', TK s' x1 l' ok' → TK s' x' (l ++ l') ok' := by
  induction t with
  | bad h => intro x' e; cases e
  | eof h =>
    intro x' _ r hst
    have h0 := r.g.s0; have h1 := r.g.s1; have e := r.p
    obtain ⟨x1, k1, z1, z2, z3, z4, z5⟩ := (Rl.scan E _ (s'.size + 1) _ _ r (by omega) (by omega)).2 _ h
    refine ⟨x1, z2, z3 hst, z4, fun l' ok' ht => ?_⟩
    rw [List.nil_append]
    exact ht.same (z1.trans (scanF_fuel _ _ _ z4 z5 (by omega)))
  | tok h t ih =>
    intro x' e r hst
    have h0 := r.g.s0; have h1 := r.g.s1; have ep := r.p
    obtain ⟨y', q1, q2⟩ := (Rl.scan E _ (s'.size + 1) _ _ r (by omega) (by omega)).1 _ _ h
    obtain ⟨x1, z1, z2, z3, z4⟩ := ih e q2.emit rfl
    refine ⟨x1, z1, z2, z3, fun l' ok' ht => ?_⟩
    rw [List.cons_append, ← q2.text E]
    exact .tok q1 (z4 l' ok' ht)
end
theorem dec_mid (a b c : ByteArray) (hc : c.data.toList = [] ∨ ∃ d t, c.data.toList = d :: t ∧ d.toNat < 128) (p : Nat) (hp : p < b.size) : Utf8.decode (a ++ b ++ c) (a.size + p) = Utf8.decode b p := by
  rw [← Lib.decodeL_drop, ← Lib.decodeL_drop]
  have hl : (a ++ b ++ c).data.toList = a.data.toList ++ (b.data.toList ++ c.data.toList) := by simp
  have ha : a.data.toList.length = a.size := Array.length_toList
  have hb : b.data.toList.length = b.size := Array.length_toList
  rw [hl, ← ha, List.drop_length_add_append, List.drop_append_of_le_length (by omega)]
  have hne : b.data.toList.drop p ≠ [] := fun e => by have := congrArg List.length e; rw [List.length_drop] at this; simp at this; omega
  rcases hc with e | ⟨d, t, e, hd⟩
  · rw [e, List.append_nil]
  · rw [e]
    exact decodeN_tail d t hd _ hne
theorem emb_mid (a b c : ByteArray) (hc : c.data.toList = [] ∨ ∃ t, c.data.toList = 44 :: t ∨ c.data.toList = 125 :: t) : Emb b (a ++ b ++ c) a.size := by
  have hz : (a ++ b ++ c).size = a.size + b.size + c.size := by rw [ByteArray.size_append, ByteArray.size_append]
  refine ⟨fun p hp => dec_mid a b c ?_ p hp, by omega, fun hlt => ?_, fun i j hj => ?_⟩
  · rcases hc with e | ⟨t, e | e⟩
    · exact Or.inl e
    · exact Or.inr ⟨_, t, e, by decide⟩
    · exact Or.inr ⟨_, t, e, by decide⟩
  · have hcn : c.data.toList ≠ [] := fun e => by have h2 : c.data.toList.length = c.size := Array.length_toList; rw [e] at h2; simp at h2; omega
    have hd : ∀ d t, c.data.toList = d :: t → d.toNat < 128 → nextR (a ++ b ++ c) ((a.size + b.size : Nat) : Int) = (d.toNat : Int) := fun d t e hd => by
      unfold nextR
      rw [Int.toNat_natCast, if_pos (by omega), ← Lib.decodeL_drop]
      have hl : (a ++ b ++ c).data.toList = (a.data.toList ++ b.data.toList) ++ c.data.toList := by simp
      have ha : a.data.toList.length = a.size := Array.length_toList
      have hb : b.data.toList.length = b.size := Array.length_toList
      rw [hl, show a.size + b.size = (a.data.toList ++ b.data.toList).length by rw [List.length_append]; omega, List.drop_left, e, Lib.decodeL_N]
      simp only [List.getD_cons_zero]
      unfold Lib.decodeN
      rw [if_pos hd]
    rcases hc with e | ⟨t, e | e⟩
    · exact absurd e hcn
    · exact Or.inl (hd _ _ e (by decide))
    · exact Or.inr (hd _ _ e (by decide))
  · apply ByteArray.ext
    apply Array.ext'
    have hl : (a ++ b ++ c).data.toList = a.data.toList ++ (b.data.toList ++ c.data.toList) := by simp
    have ha : a.data.toList.length = a.size := Array.length_toList
    have hb : b.data.toList.length = b.size := Array.length_toList
    rw [ByteArray.data_extract, ByteArray.data_extract, Array.toList_extract, Array.toList_extract, hl]
    simp only [List.extract_eq_take_drop]
    rw [← ha, List.drop_length_add_append]
    by_cases hi : i ≤ j
    · rw [List.drop_append_of_le_length (by omega), show a.data.toList.length + j - (a.data.toList.length + i) = j - i by omega, List.take_append_of_le_length (by rw [List.length_drop]; omega)]
    · rw [show a.data.toList.length + j - (a.data.toList.length + i) = 0 by omega, show j - i = 0 by omega]
      rfl
end Go.Proofs.YtnnhehlieakedaaGreatDoor.Q
namespace Go.Proofs.YtnnhehlieakedaaGreatDoor.Q
open Go.RowKit Go.Lib Go.Proofs.YtnnhehlieakedaaGreatDoorW.PrintWords Go.Proofs.YtnnhehlieakedaaGreatDoorW.PrintLast Go.Proofs.YtnnhehlieakedaaGreatDoorW.PrintMore
structure GSt where
  ms : List S25
  hob : Bool
  ts : List (Int × ByteArray)
/-- The first matcher of a list of tokens, and the tokens behind it. -/
def mat3 : List (Int × ByteArray) → Option (S25 × List (Int × ByteArray))
  | (k, v) :: (o, _) :: (j, u) :: r => if k = 8 ∨ k = 9 then match unqT k v with
    | none => none
    | some n => if 4 ≤ o ∧ o ≤ 7 then if j = 8 ∨ j = 9 then match unqT j u with
      | none => none
      | some z => some (⟨o - 4, n, z⟩, r)
      else none
      else none
    else none
  | _ => none
/-- One step of the parser over tokens. -/
def stepG (ok : Bool) (fn : Pn) (q : GSt) : Option (Option Pn × GSt) := match fn with
  | .ob => match q.ts with
    | [] => if ok then some (some .eo, { q with hob := false }) else none
    | (k, _) :: r =>
      let q1 : GSt := if k = 1 then { q with hob := true, ts := r } else { q with hob := false }
      match q1.ts with
      | [] => if ok then some (some .cb, q1) else none
      | (j, _) :: _ => if j = 2 then some (some .cb, q1) else some (some .ma, q1)
  | .cb => match q.ts with
    | [] => if ok then (if q.hob then none else some (some .eo, q)) else none
    | (k, _) :: r => if k = 2 then (if q.hob then some (some .eo, { q with ts := r }) else none) else (if q.hob then none else some (some .eo, q))
  | .ma => match mat3 q.ts with
    | none => none
    | some (m, r) => some (some .en, { q with ms := q.ms ++ [m], ts := r })
  | .en => match q.ts with
    | [] => if ok then some (some .cb, q) else none
    | (k, _) :: _ => if k = 3 then some (some .co, q) else if k = 2 then some (some .cb, q) else none
  | .co => match q.ts with
    | [] => none
    | (k, _) :: r => if k = 3 then match r with
      | [] => if ok then some (some .cb, { q with ts := r }) else none
      | (j, _) :: _ => if j = 2 then some (some .cb, { q with ts := r }) else if j = 8 ∨ j = 9 then some (some .ma, { q with ts := r }) else none
      else none
  | .eo => match q.ts with
    | [] => if ok then some (none, q) else none
    | _ :: _ => none
def runG (ok : Bool) : Nat → Pn → GSt → Option (List S25)
  | 0, _, _ => none
  | k + 1, fn, q => match stepG ok fn q with
    | none => none
    | some (none, q') => some q'.ms
    | some (some f, q') => runG ok k f q'
def gram (ok : Bool) (ts : List (Int × ByteArray)) : Option (List S25) := runG ok (4 * ts.length + 8) .ob ⟨[], false, ts⟩
def measG (fn : Pn) (q : GSt) : Nat := 4 * q.ts.length + fn.rank
theorem mat3_some {ts : List (Int × ByteArray)} {m : S25} {r : List (Int × ByteArray)} (h : mat3 ts = some (m, r)) : ∃ k v o c j u n z, ts = (k, v) :: (o, c) :: (j, u) :: r ∧ (k = 8 ∨ k = 9) ∧ (4 ≤ o ∧ o ≤ 7) ∧ (j = 8 ∨ j = 9) ∧ unqT k v = some n ∧ unqT j u = some z ∧ m = ⟨o - 4, n, z⟩ := by
  match ts, h with
  | [], h => cases h
  | [_], h => cases h
  | [_, _], h => cases h
  | (k, v) :: (o, c) :: (j, u) :: r', h =>
    unfold mat3 at h
    simp only at h
    by_cases h1 : k = 8 ∨ k = 9
    · rw [if_pos h1] at h
      cases hn : unqT k v with
      | none => rw [hn] at h; cases h
      | some n =>
        rw [hn] at h
        simp only at h
        by_cases h2 : 4 ≤ o ∧ o ≤ 7
        · rw [if_pos h2] at h
          by_cases h3 : j = 8 ∨ j = 9
          · rw [if_pos h3] at h
            cases hz : unqT j u with
            | none => rw [hz] at h; cases h
            | some z =>
              rw [hz] at h
              obtain ⟨rfl, rfl⟩ := Prod.mk.inj (Option.some.inj h)
              exact ⟨k, v, o, c, j, u, n, z, rfl, h1, h2, h3, hn, hz, rfl⟩
          · rw [if_neg h3] at h; cases h
        · rw [if_neg h2] at h; cases h
    · rw [if_neg h1] at h; cases h
theorem mat3_app {ts t2 : List (Int × ByteArray)} {m : S25} {r : List (Int × ByteArray)} (h : mat3 ts = some (m, r)) : mat3 (ts ++ t2) = some (m, r ++ t2) := by
  obtain ⟨k, v, o, c, j, u, n, z, rfl, h1, h2, h3, hn, hz, rfl⟩ := mat3_some h
  simp only [List.cons_append]
  unfold mat3
  simp only [h1, h2, h3, hn, hz, if_true, and_self]
theorem mat3_len {ts : List (Int × ByteArray)} {m : S25} {r : List (Int × ByteArray)} (h : mat3 ts = some (m, r)) : ts.length = r.length + 3 := by
  obtain ⟨k, v, o, c, j, u, n, z, rfl, _⟩ := mat3_some h
  rfl
/-- Tokens behind tokens that bear no matcher: a brace or a comma is no part of one. -/
theorem mat3_none {ts t2 : List (Int × ByteArray)} (h : mat3 ts = none) (h2 : ∀ k v r, t2 = (k, v) :: r → k = 2 ∨ k = 3) (hne : t2.length ≤ 1) : mat3 (ts ++ t2) = none := by
  cases hm : mat3 (ts ++ t2) with
  | none => rfl
  | some q =>
    obtain ⟨m, r⟩ := q
    obtain ⟨k, v, o, c, j, u, n, z, e, h1, h2', h3, hn, hz, rfl⟩ := mat3_some hm
    match ts, h, e with
    | [], _, e =>
      rw [List.nil_append] at e
      rw [e] at hne
      simp at hne
    | [a], _, e =>
      simp only [List.cons_append, List.nil_append] at e
      have := congrArg List.length e
      simp at this
      omega
    | [a, b], _, e =>
      simp only [List.cons_append, List.nil_append] at e
      injection e with _ e
      injection e with _ e
      rcases h2 j u r e with q | q <;> omega
    | a :: b :: d :: ts', h, e =>
      simp only [List.cons_append] at e
      injection e with e1 e
      injection e with e2 e
      injection e with e3 e
      subst e1 e2 e3
      unfold mat3 at h
      simp only [h1, h2', h3, hn, hz, if_true, and_self] at h
      cases h
theorem stepG_less {ok : Bool} {fn f : Pn} {q q' : GSt} (h : stepG ok fn q = some (some f, q')) : measG f q' < measG fn q := by
  obtain ⟨ms, hob, ts⟩ := q
  have fin : ∀ {g : Pn} {x : GSt}, some (some g, x) = some (some f, q') → measG g x < measG fn ⟨ms, hob, ts⟩ → measG f q' < measG fn ⟨ms, hob, ts⟩ := fun e hm => by
    obtain ⟨e1, rfl⟩ := Prod.mk.inj (Option.some.inj e)
    obtain rfl := Option.some.inj e1
    exact hm
  cases fn
  · -- ob
    match ts with
    | [] =>
      cases ok
      · cases h
      · exact fin h (by unfold measG Pn.rank; simp <;> omega)
    | (k, v) :: r =>
      unfold stepG at h
      simp only at h
      obtain ⟨q1, hq1⟩ : ∃ q1, (if k = 1 then { ms := ms, hob := true, ts := r } else { ms := ms, hob := false, ts := (k, v) :: r } : GSt) = q1 := ⟨_, rfl⟩
      rw [hq1] at h
      have hl : q1.ts.length ≤ r.length + 1 := by rw [← hq1]; split <;> simp
      obtain ⟨m1, b1, t1⟩ := q1
      simp only at hl
      match t1, h, hl with
      | [], h, hl =>
        cases ok
        · cases h
        · exact fin h (by unfold measG Pn.rank; simp <;> omega)
      | (j, u) :: r2, h, hl =>
        simp only at h
        by_cases hj : j = 2
        · rw [if_pos hj] at h; exact fin h (by unfold measG Pn.rank; simp at hl ⊢ <;> omega)
        · rw [if_neg hj] at h; exact fin h (by unfold measG Pn.rank; simp at hl ⊢ <;> omega)
  · -- cb
    match ts with
    | [] =>
      cases ok
      · cases h
      · cases hob
        · exact fin h (by unfold measG Pn.rank; simp <;> omega)
        · cases h
    | (k, v) :: r =>
      unfold stepG at h
      simp only at h
      by_cases hk : k = 2
      · rw [if_pos hk] at h
        cases hob
        · cases h
        · exact fin h (by unfold measG Pn.rank; simp <;> omega)
      · rw [if_neg hk] at h
        cases hob
        · exact fin h (by unfold measG Pn.rank; simp <;> omega)
        · cases h
  · -- ma
    unfold stepG at h
    simp only at h
    cases hm : mat3 ts with
    | none => rw [hm] at h; cases h
    | some x =>
      obtain ⟨m, r⟩ := x
      rw [hm] at h
      have hl := mat3_len hm
      exact fin h (by unfold measG Pn.rank; simp only; omega)
  · -- en
    match ts with
    | [] =>
      cases ok
      · cases h
      · exact fin h (by unfold measG Pn.rank; simp <;> omega)
    | (k, v) :: r =>
      unfold stepG at h
      simp only at h
      by_cases hk : k = 3
      · rw [if_pos hk] at h; exact fin h (by unfold measG Pn.rank; simp <;> omega)
      · rw [if_neg hk] at h
        by_cases hk2 : k = 2
        · rw [if_pos hk2] at h; exact fin h (by unfold measG Pn.rank; simp <;> omega)
        · rw [if_neg hk2] at h; cases h
  · -- co
    match ts with
    | [] => cases h
    | (k, v) :: r =>
      unfold stepG at h
      simp only at h
      by_cases hk : k = 3
      · rw [if_pos hk] at h
        match r, h with
        | [], h =>
          cases ok
          · cases h
          · exact fin h (by unfold measG Pn.rank; simp <;> omega)
        | (j, u) :: r2, h =>
          simp only at h
          by_cases hj : j = 2
          · rw [if_pos hj] at h; exact fin h (by unfold measG Pn.rank; simp <;> omega)
          · rw [if_neg hj] at h
            by_cases hj2 : j = 8 ∨ j = 9
            · rw [if_pos hj2] at h; exact fin h (by unfold measG Pn.rank; simp <;> omega)
            · rw [if_neg hj2] at h; cases h
      · rw [if_neg hk] at h; cases h
  · -- eo
    match ts with
    | [] =>
      cases ok
      · cases h
      · obtain ⟨e1, _⟩ := Prod.mk.inj (Option.some.inj h)
        cases e1
    | (k, v) :: r => cases h
theorem runG_fuel {ok : Bool} : ∀ (k k' : Nat) (fn : Pn) (q : GSt), measG fn q < k → measG fn q < k' → runG ok k fn q = runG ok k' fn q
  | 0, _, _, _, h, _ => absurd h (by omega)
  | _, 0, _, _, _, h => absurd h (by omega)
  | k + 1, k' + 1, fn, q, h, h' => by
    rw [runG, runG]
    cases hs : stepG ok fn q with
    | none => rfl
    | some x =>
      obtain ⟨f, q'⟩ := x
      cases f with
      | none => rfl
      | some f =>
        have := stepG_less hs
        exact runG_fuel k k' f q' (by omega) (by omega)
/-- More rounds change nothing where there is an answer. -/
theorem runG_more {ok : Bool} : ∀ (k : Nat) (fn : Pn) (q : GSt) (r : List S25), runG ok k fn q = some r → ∀ k', k ≤ k' → runG ok k' fn q = some r
  | 0, _, _, _, h, _, _ => by cases h
  | k + 1, fn, q, r, h, k', hk => by
    obtain ⟨k', rfl⟩ : ∃ j, k' = j + 1 := ⟨k' - 1, by omega⟩
    rw [runG] at h ⊢
    cases hs : stepG ok fn q with
    | none => rw [hs] at h; cases h
    | some x =>
      obtain ⟨f, q'⟩ := x
      rw [hs] at h
      cases f with
      | none => exact h
      | some f => exact runG_more k f q' r h k' (by omega)
/-- A step over tokens and a step over the text that they are of, alike. -/
def SameSt (s : ByteArray) (ok : Bool) : Option (Option Pn × GSt) → Option (Option Pn × PSt) → Prop
  | none, p => p = none
  | some (none, g'), p => ∃ q', p = some (none, q') ∧ q'.ms = g'.ms
  | some (some f, g'), p => ∃ q', p = some (some f, q') ∧ q'.ms = g'.ms ∧ q'.hob = g'.hob ∧ TK s q'.x g'.ts ok
theorem step_same {s : ByteArray} {fn : Pn} {q : PSt} {ts : List (Int × ByteArray)} {ok : Bool} (t : TK s q.x ts ok) : SameSt s ok (stepG ok fn ⟨q.ms, q.hob, ts⟩) (stepP s fn q) := by
  obtain ⟨ms, hob, x⟩ := q
  replace t : TK s x ts ok := t
  have nn : SameSt s ok none none := rfl
  have gg : ∀ {f : Pn} {m : List S25} {b : Bool} {y : LSt} {l : List (Int × ByteArray)}, TK s y l ok → SameSt s ok (some (some f, ⟨m, b, l⟩)) (some (some f, ⟨m, b, y⟩)) := fun t => ⟨_, rfl, rfl, rfl, t⟩
  cases fn
  · -- ob
    cases t with
    | eof h => unfold stepG stepP; simp only [h, if_true]; exact gg (.eof h)
    | bad h => unfold stepG stepP; simp only [h, Bool.false_eq_true, if_false]; exact nn
    | @tok _ y k l _ h t =>
      by_cases hk : k = 1
      · cases t with
        | eof h2 => unfold stepG stepP; simp only [h, hk, if_true, h2]; exact gg (.eof h2)
        | bad h2 => unfold stepG stepP; simp only [h, hk, if_true, h2, Bool.false_eq_true, if_false]; exact nn
        | @tok _ y2 j l2 _ h2 t2 =>
          unfold stepG stepP
          simp only [h, hk, if_true, h2]
          by_cases hj : j = 2
          · rw [if_pos hj, if_pos hj]; exact gg (.tok h2 t2)
          · rw [if_neg hj, if_neg hj]; exact gg (.tok h2 t2)
      · unfold stepG stepP
        simp only [h, hk, if_false]
        by_cases hj : k = 2
        · rw [if_pos hj, if_pos hj]; exact gg (.tok h t)
        · rw [if_neg hj, if_neg hj]; exact gg (.tok h t)
  · -- cb
    cases t with
    | eof h =>
      unfold stepG stepP
      simp only [h, if_true]
      cases hob
      · exact gg (.eof h)
      · exact nn
    | bad h => unfold stepG stepP; simp only [h, Bool.false_eq_true, if_false]; exact nn
    | @tok _ y k l _ h t =>
      unfold stepG stepP
      simp only [h]
      by_cases hk : k = 2
      · rw [if_pos hk, if_pos hk]
        cases hob
        · exact nn
        · exact gg t
      · rw [if_neg hk, if_neg hk]
        cases hob
        · exact gg (.tok h t)
        · exact nn
  · -- ma
    unfold stepG
    simp only
    cases t with
    | eof h => unfold stepP; simp only [h]; exact nn
    | bad h => unfold stepP; simp only [h]; exact nn
    | @tok _ y k l _ h t =>
      cases t with
      | eof h2 =>
        simp only [mat3]
        unfold stepP
        simp only [h, h2]
        repeat' split
        all_goals exact nn
      | bad h2 =>
        simp only [mat3]
        unfold stepP
        simp only [h, h2]
        repeat' split
        all_goals exact nn
      | @tok _ y2 o l2 _ h2 t2 =>
        cases t2 with
        | eof h3 =>
          simp only [mat3]
          unfold stepP
          simp only [h, h2, h3]
          repeat' split
          all_goals exact nn
        | bad h3 =>
          simp only [mat3]
          unfold stepP
          simp only [h, h2, h3]
          repeat' split
          all_goals exact nn
        | @tok _ y3 j l3 _ h3 t3 =>
          unfold stepP mat3
          simp only [h, h2, h3]
          by_cases a1 : k = 8 ∨ k = 9
          · rw [if_pos a1, if_pos a1]
            cases hn : unqT k (tokS s y) with
            | none => exact nn
            | some n =>
              simp only
              by_cases a2 : 4 ≤ o ∧ o ≤ 7
              · rw [if_pos a2, if_pos a2]
                by_cases a3 : j = 8 ∨ j = 9
                · rw [if_pos a3, if_pos a3]
                  cases hz : unqT j (tokS s y3) with
                  | none => exact nn
                  | some z => exact gg t3
                · rw [if_neg a3, if_neg a3]; exact nn
              · rw [if_neg a2, if_neg a2]; exact nn
          · rw [if_neg a1, if_neg a1]; exact nn
  · -- en
    cases t with
    | eof h => unfold stepG stepP; simp only [h, if_true]; exact gg (.eof h)
    | bad h => unfold stepG stepP; simp only [h, Bool.false_eq_true, if_false]; exact nn
    | @tok _ y k l _ h t =>
      unfold stepG stepP
      simp only [h]
      by_cases hk : k = 3
      · rw [if_pos hk, if_pos hk]; exact gg (.tok h t)
      · rw [if_neg hk, if_neg hk]
        by_cases hk2 : k = 2
        · rw [if_pos hk2, if_pos hk2]; exact gg (.tok h t)
        · rw [if_neg hk2, if_neg hk2]; exact nn
  · -- co
    cases t with
    | eof h => unfold stepG stepP; simp only [h]; exact nn
    | bad h => unfold stepG stepP; simp only [h]; exact nn
    | @tok _ y k l _ h t =>
      by_cases hk : k = 3
      · cases t with
        | eof h2 => unfold stepG stepP; simp only [h, hk, if_true, h2]; exact gg (.eof h2)
        | bad h2 => unfold stepG stepP; simp only [h, hk, if_true, h2, Bool.false_eq_true, if_false]; exact nn
        | @tok _ y2 j l2 _ h2 t2 =>
          unfold stepG stepP
          simp only [h, hk, if_true, h2]
          by_cases hj : j = 2
          · rw [if_pos hj, if_pos hj]; exact gg (.tok h2 t2)
          · rw [if_neg hj, if_neg hj]
            by_cases hj2 : j = 8 ∨ j = 9
            · rw [if_pos hj2, if_pos hj2]; exact gg (.tok h2 t2)
            · rw [if_neg hj2, if_neg hj2]; exact nn
      · unfold stepG stepP; simp only [h, hk, if_false]; exact nn
  · -- eo
    cases t with
    | eof h => unfold stepG stepP; simp only [h, if_true]; exact ⟨_, rfl, rfl⟩
    | bad h => unfold stepG stepP; simp only [h, Bool.false_eq_true, if_false]; exact nn
    | tok h t => unfold stepG stepP; simp only [h]; exact nn
theorem run_same {s : ByteArray} {ok : Bool} : ∀ (k : Nat) (fn : Pn) (q : PSt) (ts : List (Int × ByteArray)), TK s q.x ts ok → runP s k fn q = runG ok k fn ⟨q.ms, q.hob, ts⟩
  | 0, _, _, _, _ => rfl
  | k + 1, fn, q, ts, t => by
    have h := step_same (fn := fn) t
    rw [runP, runG]
    cases hs : stepG ok fn ⟨q.ms, q.hob, ts⟩ with
    | none => rw [hs] at h; have h : stepP s fn q = none := h; rw [h]
    | some x =>
      obtain ⟨f, g'⟩ := x
      rw [hs] at h
      cases f with
      | none =>
        obtain ⟨q', e, h1⟩ := h
        rw [e]
        simp only
        rw [h1]
      | some f =>
        obtain ⟨q', e, h1, h2, h3⟩ := h
        rw [e]
        simp only
        rw [run_same k f q' g'.ts h3, h1, h2]
theorem TK.len {s : ByteArray} {x : LSt} {l : List (Int × ByteArray)} {ok : Bool} (t : TK s x l ok) : LGd s x → l.length + x.p.toNat ≤ s.size := by
  induction t with
  | @eof x y h => intro g; have := g.p1; simp; omega
  | @bad x y h => intro g; have := g.p1; simp; omega
  | @tok x y k l ok h t ih =>
    intro g
    have hg := scanF_good _ g _ _ h
    have h2 := (hg.2 k rfl).1
    have h3 := ih hg.1.emit
    have h4 : (emitS y).p = y.p := rfl
    rw [h4] at h3
    have := g.s0; have := g.s1
    rw [List.length_cons]
    omega
theorem lx0_good (s : ByteArray) (h : s.size ≤ 4294967296) : LGd s lx0 := ⟨by show (0 : Int) ≤ _; omega, by decide, by decide, by decide, by decide, by decide, by decide, by decide, h⟩
/-- What the parser computes of a text is what the grammar computes of its tokens. -/
theorem parF_gram {s : ByteArray} {l : List (Int × ByteArray)} {ok : Bool} (hs : s.size ≤ 4294967296) (t : TK s lx0 l ok) : parF s = gram ok l := by
  unfold parF gram
  have hl := t.len (lx0_good s hs)
  have h0 : lx0.p.toNat = 0 := rfl
  rw [run_same _ _ ⟨[], false, lx0⟩ l t]
  exact runG_fuel _ _ _ _ (by unfold measG Pn.rank; simp only; omega) (by unfold measG Pn.rank; simp only; omega)
/-- Matchers ahead of the others. -/
theorem stepG_pre {ok : Bool} {fn : Pn} (ms0 ms : List S25) (hob : Bool) (ts : List (Int × ByteArray)) :
    stepG ok fn ⟨ms0 ++ ms, hob, ts⟩ = (stepG ok fn ⟨ms, hob, ts⟩).map fun x => (x.1, { x.2 with ms := ms0 ++ x.2.ms }) := by
  cases fn
  · match ts with
    | [] => cases ok <;> rfl
    | (k, v) :: r =>
      by_cases hk : k = 1
      · match r with
        | [] => unfold stepG; simp only [hk, if_true]; cases ok <;> rfl
        | (j, u) :: r2 =>
          unfold stepG
          simp only [hk, if_true]
          by_cases hj : j = 2
          · rw [if_pos hj, if_pos hj]; rfl
          · rw [if_neg hj, if_neg hj]; rfl
      · unfold stepG
        simp only [hk, if_false]
        by_cases hj : k = 2
        · rw [if_pos hj, if_pos hj]; rfl
        · rw [if_neg hj, if_neg hj]; rfl
  · match ts with
    | [] => cases ok <;> cases hob <;> rfl
    | (k, v) :: r =>
      unfold stepG
      simp only
      by_cases hk : k = 2
      · rw [if_pos hk, if_pos hk]; cases hob <;> rfl
      · rw [if_neg hk, if_neg hk]; cases hob <;> rfl
  · unfold stepG
    simp only
    cases mat3 ts with
    | none => rfl
    | some x =>
      obtain ⟨m, r⟩ := x
      simp only [Option.map_some, List.append_assoc]
  · match ts with
    | [] => cases ok <;> rfl
    | (k, v) :: r =>
      unfold stepG
      simp only
      by_cases hk : k = 3
      · rw [if_pos hk, if_pos hk]; rfl
      · rw [if_neg hk, if_neg hk]
        by_cases hk2 : k = 2
        · rw [if_pos hk2, if_pos hk2]; rfl
        · rw [if_neg hk2, if_neg hk2]; rfl
  · match ts with
    | [] => rfl
    | (k, v) :: r =>
      by_cases hk : k = 3
      · match r with
        | [] => unfold stepG; simp only [hk, if_true]; cases ok <;> rfl
        | (j, u) :: r2 =>
          unfold stepG
          simp only [hk, if_true]
          by_cases hj : j = 2
          · rw [if_pos hj, if_pos hj]; rfl
          · rw [if_neg hj, if_neg hj]
            by_cases hj2 : j = 8 ∨ j = 9
            · rw [if_pos hj2, if_pos hj2]; rfl
            · rw [if_neg hj2, if_neg hj2]; rfl
      · unfold stepG; simp only [hk, if_false]; rfl
  · match ts with
    | [] => cases ok <;> rfl
    | (k, v) :: r => rfl
theorem runG_pre {ok : Bool} (ms0 : List S25) : ∀ (k : Nat) (fn : Pn) (ms : List S25) (hob : Bool) (ts : List (Int × ByteArray)), runG ok k fn ⟨ms0 ++ ms, hob, ts⟩ = (runG ok k fn ⟨ms, hob, ts⟩).map (ms0 ++ ·)
  | 0, _, _, _, _ => rfl
  | k + 1, fn, ms, hob, ts => by
    rw [runG, runG, stepG_pre]
    cases stepG ok fn ⟨ms, hob, ts⟩ with
    | none => rfl
    | some x =>
      obtain ⟨f, q'⟩ := x
      cases f with
      | none => rfl
      | some f =>
        simp only [Option.map_some]
        exact runG_pre ms0 k f q'.ms q'.hob q'.ts
end Go.Proofs.YtnnhehlieakedaaGreatDoor.Q
namespace Go.Proofs.YtnnhehlieakedaaGreatDoor.Q
open Go.RowKit Go.Lib Go.Proofs.YtnnhehlieakedaaGreatDoorW.PrintWords Go.Proofs.YtnnhehlieakedaaGreatDoorW.PrintLast Go.Proofs.YtnnhehlieakedaaGreatDoorW.PrintMore
theorem dec_at {s : ByteArray} {a b : List UInt8} {c : UInt8} (h : s.data.toList = a ++ c :: b) (hc : c.toNat < 128) : Utf8.decode s a.length = (c.toNat, 1) ∧ a.length < s.size := by
  constructor
  · rw [← Lib.decodeL_drop, h, List.drop_left, Lib.decodeL_N]
    simp only [List.getD_cons_zero]
    unfold Lib.decodeN
    rw [if_pos hc]
  · have h2 : s.data.toList.length = s.size := Array.length_toList
    rw [h] at h2
    simp at h2
    omega
theorem pk_some {s : ByteArray} {x : LSt} {c : Sc} {y : LSt} (h : scan1 s x = some (c, y)) : pkT s x = (c, y) := by
  unfold pkT
  rw [scanF, h]
theorem pk_one {s : ByteArray} {x : LSt} {n : Nat} {c : UInt8} (g : LGd s x) (hp : x.p = (n : Int)) (hd : Utf8.decode s n = (c.toNat, 1)) (hn : n < s.size) (k : Int) (hk : (c = 123 ∧ k = 1) ∨ (c = 125 ∧ k = 2) ∨ (c = 44 ∧ k = 3)) :
    ∃ y, pkT s x = (.tok k, y) ∧ y.p = (n : Int) + 1 ∧ LGd s y := by
  refine ⟨nextS s x, pk_some ?_, ?_, g.next⟩
  · have hr : nextR s x.p = (c.toNat : Int) := by
      unfold nextR
      rw [hp, Int.toNat_natCast, if_pos hn, hd]
    unfold scan1
    simp only
    rw [hr]
    rcases hk with ⟨rfl, rfl⟩ | ⟨rfl, rfl⟩ | ⟨rfl, rfl⟩ <;> rfl
  · unfold nextS
    rw [hp, Int.toNat_natCast, if_pos hn]
    simp only
    rw [hd]
    rfl
theorem pk_end {s : ByteArray} {x : LSt} (g : LGd s x) (hp : x.p = (s.size : Int)) : ∃ y, pkT s x = (.eof, y) := by
  refine ⟨nextS s x, pk_some ?_⟩
  unfold scan1
  simp only
  rw [(nextR_end g).2 hp, if_pos rfl]
theorem TK.braces {t : ByteArray} {l : List (Int × ByteArray)} (hz : t.size + 2 ≤ 4294967296) (h : TK t lx0 l true) : ∃ u v, TK ((⟨#[123]⟩ ++ t) ++ ⟨#[125]⟩) lx0 ((1, u) :: (l ++ [(2, v)])) true := by
  obtain ⟨s, hs⟩ : ∃ s : ByteArray, (⟨#[123]⟩ ++ t) ++ ⟨#[125]⟩ = s := ⟨_, rfl⟩
  have hl : s.data.toList = (123 :: t.data.toList) ++ [125] := by rw [← hs]; simp
  have hsz : s.size = t.size + 2 := by rw [← hs, ByteArray.size_append, ByteArray.size_append]; show 1 + t.size + 1 = _; omega
  have E : Emb t s 1 := by rw [← hs]; exact emb_mid ⟨#[123]⟩ t ⟨#[125]⟩ (Or.inr ⟨[], Or.inr rfl⟩)
  rw [hs]
  clear hs
  have g0 := lx0_good s (by omega)
  obtain ⟨y, hy, hyp, gy⟩ := pk_one (n := 0) (c := 123) g0 rfl (dec_at (a := []) (b := t.data.toList ++ [125]) (by rw [hl]; rfl) (by decide)).1 (by omega) 1 (Or.inl ⟨rfl, rfl⟩)
  have hR : Rl t s 1 lx0 (emitS y) := ⟨by show y.p = _; rw [hyp]; rfl, by show y.p = _; rw [hyp]; rfl, lx0_good t (by omega), gy.emit⟩
  obtain ⟨x1, q1, q2, q3, q4⟩ := TK.emb E h rfl hR rfl
  have ht : t.data.toList.length = t.size := Array.length_toList
  obtain ⟨y2, hy2, hyp2, gy2⟩ := pk_one (n := 1 + t.size) (c := 125) q3 q1 (by
    have := (dec_at (s := s) (a := 123 :: t.data.toList) (b := []) (c := 125) hl (by decide)).1
    rw [List.length_cons, ht, Nat.add_comm] at this
    exact this) (by omega) 2 (Or.inr (Or.inl ⟨rfl, rfl⟩))
  obtain ⟨y3, hy3⟩ := pk_end gy2.emit (by show y2.p = _; rw [hyp2]; omega)
  exact ⟨tokS s y, tokS s y2, .tok hy (q4 _ _ (.tok hy2 (.eof hy3)))⟩
theorem TK.comma {a b : ByteArray} {l l2 : List (Int × ByteArray)} (hz : a.size + b.size + 1 ≤ 4294967296) (h : TK a lx0 l true) (h2 : TK b lx0 l2 true) : ∃ u, TK ((a ++ ⟨#[44]⟩) ++ b) lx0 (l ++ (3, u) :: l2) true := by
  obtain ⟨s, hs⟩ : ∃ s : ByteArray, (a ++ ⟨#[44]⟩) ++ b = s := ⟨_, rfl⟩
  have hl : s.data.toList = a.data.toList ++ 44 :: b.data.toList := by rw [← hs]; simp
  have ha : a.data.toList.length = a.size := Array.length_toList
  have hsz : s.size = a.size + b.size + 1 := by rw [← hs, ByteArray.size_append, ByteArray.size_append]; show a.size + 1 + b.size = _; omega
  have E1 : Emb a s 0 := by
    have e : (⟨#[]⟩ ++ a) ++ (⟨#[44]⟩ ++ b) = s := by rw [← hs]; apply ByteArray.ext; simp
    rw [← e]
    exact emb_mid ⟨#[]⟩ a (⟨#[44]⟩ ++ b) (Or.inr ⟨b.data.toList, Or.inl (by simp)⟩)
  have E2 : Emb b s (a.size + 1) := by
    have e : ((a ++ ⟨#[44]⟩) ++ b) ++ ⟨#[]⟩ = s := by rw [← hs]; apply ByteArray.ext; simp
    have E := emb_mid (a ++ ⟨#[44]⟩) b ⟨#[]⟩ (Or.inl rfl)
    rw [e, ByteArray.size_append] at E
    exact E
  rw [hs]
  clear hs
  have g0 := lx0_good s (by omega)
  obtain ⟨x1, q1, q2, q3, q4⟩ := TK.emb E1 h rfl ⟨rfl, rfl, lx0_good a (by omega), g0⟩ rfl
  have hd := (dec_at (s := s) (a := a.data.toList) (b := b.data.toList) (c := 44) hl (by decide)).1
  rw [ha] at hd
  obtain ⟨y, hy, hyp, gy⟩ := pk_one (n := a.size) (c := 44) q3 (by rw [q1]; simp) hd (by omega) 3 (Or.inr (Or.inr ⟨rfl, rfl⟩))
  have hR : Rl b s (a.size + 1) lx0 (emitS y) := ⟨by show y.p = _; rw [hyp]; show _ = _ + (0 : Int); omega, by show y.p = _; rw [hyp]; show _ = _ + (0 : Int); omega, lx0_good b (by omega), gy.emit⟩
  obtain ⟨x3, p1, p2, p3, p4⟩ := TK.emb E2 h2 rfl hR rfl
  obtain ⟨y3, hy3⟩ := pk_end p3 (by rw [p1]; omega)
  have := p4 _ _ (.eof hy3)
  rw [List.append_nil] at this
  exact ⟨tokS s y, q4 _ _ (.tok hy this)⟩
/-- The states that go on with a list. -/
def Pn.mid : Pn → Prop
  | .ma | .en | .co => True
  | _ => False
theorem cb_end (v : ByteArray) : ∀ (k : Nat) (ms : List S25), runG true k .cb ⟨ms, true, [(2, v)]⟩ = runG true k .cb ⟨ms, false, []⟩
  | 0, _ => rfl
  | 1, _ => rfl
  | _ + 2, _ => rfl
theorem cb_no (u : ByteArray) (r : List (Int × ByteArray)) : ∀ (k : Nat) (ms : List S25), runG true k .cb ⟨ms, false, (2, u) :: r⟩ = none
  | 0, _ => rfl
  | _ + 1, _ => rfl
theorem cb_no2 (u v : ByteArray) (r : List (Int × ByteArray)) : ∀ (k : Nat) (ms : List S25), runG true k .cb ⟨ms, true, (2, u) :: (r ++ [(2, v)])⟩ = none
  | 0, _ => rfl
  | 1, _ => rfl
  | k + 2, ms => by
    have e : ∃ p q, r ++ [(2, v)] = p :: q := by cases r with
      | nil => exact ⟨_, _, rfl⟩
      | cons a r => exact ⟨_, _, rfl⟩
    obtain ⟨p, q, e⟩ := e
    rw [e]
    rfl
/-- Braces around what goes on with a list: the same answer. -/
theorem brace_run (v : ByteArray) : ∀ (k : Nat) (fn : Pn) (ms : List S25) (ts : List (Int × ByteArray)), fn.mid → runG true k fn ⟨ms, true, ts ++ [(2, v)]⟩ = runG true k fn ⟨ms, false, ts⟩
  | 0, _, _, _, _ => rfl
  | k + 1, .ma, ms, ts, _ => by
    rw [runG, runG]
    unfold stepG
    simp only
    cases hm : mat3 ts with
    | none =>
      rw [mat3_none hm (fun k' v' r e => by injection e with e1 _; injection e1 with e1 _; exact Or.inl e1.symm) (by simp)]
    | some x =>
      obtain ⟨m, r⟩ := x
      rw [mat3_app hm]
      exact brace_run v k .en (ms ++ [m]) r trivial
  | k + 1, .en, ms, [], _ => by
    rw [runG, runG]
    show runG true k .cb ⟨ms, true, [(2, v)]⟩ = runG true k .cb ⟨ms, false, []⟩
    exact cb_end v k ms
  | k + 1, .en, ms, (j, u) :: r, _ => by
    rw [runG, runG]
    unfold stepG
    simp only [List.cons_append]
    by_cases h3 : j = 3
    · rw [if_pos h3, if_pos h3]
      exact brace_run v k .co ms ((j, u) :: r) trivial
    · rw [if_neg h3, if_neg h3]
      by_cases h2 : j = 2
      · rw [if_pos h2, if_pos h2]
        subst h2
        exact (cb_no2 u v r k ms).trans (cb_no u r k ms).symm
      · rw [if_neg h2, if_neg h2]
  | k + 1, .co, ms, [], _ => by
    rw [runG, runG]
    rfl
  | k + 1, .co, ms, (j, u) :: r, _ => by
    rw [runG, runG]
    by_cases h3 : j = 3
    · match r with
      | [] =>
        unfold stepG
        simp only [List.cons_append, List.nil_append, if_pos h3]
        exact cb_end v k ms
      | (i, z) :: r2 =>
        unfold stepG
        simp only [List.cons_append, if_pos h3]
        by_cases h2 : i = 2
        · rw [if_pos h2, if_pos h2]
          subst h2
          exact (cb_no2 z v r2 k ms).trans (cb_no z r2 k ms).symm
        · rw [if_neg h2, if_neg h2]
          by_cases h8 : i = 8 ∨ i = 9
          · rw [if_pos h8, if_pos h8]
            exact brace_run v k .ma ms ((i, z) :: r2) trivial
          · rw [if_neg h8, if_neg h8]
    · unfold stepG
      simp only [List.cons_append, if_neg h3]
/-- More rounds than the measure say the same as the grammar's own. -/
theorem gram_runG {ok : Bool} (ts : List (Int × ByteArray)) (k : Nat) (h : 4 * ts.length + 3 < k) : gram ok ts = runG ok k .ob ⟨[], false, ts⟩ :=
  runG_fuel _ _ _ _ (by unfold measG Pn.rank; simp only; omega) (by unfold measG Pn.rank; simp only; omega)
theorem gram_braces (u v : ByteArray) (k : Int) (z : ByteArray) (r : List (Int × ByteArray)) (hk : k ≠ 1) : gram true ((1, u) :: ((k, z) :: r ++ [(2, v)])) = gram true ((k, z) :: r) := by
  rw [gram_runG ((k, z) :: r) (4 * r.length + 8 + 12) (by simp; omega), gram_runG ((1, u) :: ((k, z) :: r ++ [(2, v)])) (4 * r.length + 8 + 12) (by simp; omega)]
  obtain ⟨n, hn⟩ : ∃ n, 4 * r.length + 8 + 12 = n + 1 := ⟨_, rfl⟩
  rw [hn, runG, runG]
  have e1 : stepG true .ob ⟨[], false, (1, u) :: ((k, z) :: r ++ [(2, v)])⟩ = if k = 2 then some (some .cb, ⟨[], true, (k, z) :: r ++ [(2, v)]⟩) else some (some .ma, ⟨[], true, (k, z) :: r ++ [(2, v)]⟩) := rfl
  have e2 : stepG true .ob ⟨[], false, (k, z) :: r⟩ = if k = 2 then some (some .cb, ⟨[], false, (k, z) :: r⟩) else some (some .ma, ⟨[], false, (k, z) :: r⟩) := by
    unfold stepG
    simp only [if_neg hk]
  rw [e1, e2]
  by_cases h2 : k = 2
  · rw [if_pos h2, if_pos h2]
    subst h2
    exact (cb_no2 z v r n []).trans (cb_no z r n []).symm
  · rw [if_neg h2, if_neg h2]
    exact brace_run v n .ma [] ((k, z) :: r) trivial
/-- A text and the same in braces: the same matchers. -/
theorem parF_braces {t : ByteArray} {k : Int} {z : ByteArray} {r : List (Int × ByteArray)} (hz : t.size + 2 ≤ 4294967296) (h : TK t lx0 ((k, z) :: r) true) (hk : k ≠ 1) : parF ((⟨#[123]⟩ ++ t) ++ ⟨#[125]⟩) = parF t := by
  obtain ⟨u, v, hb⟩ := TK.braces hz h
  rw [parF_gram (by rw [ByteArray.size_append, ByteArray.size_append]; show 1 + t.size + 1 ≤ _; omega) hb, parF_gram (by omega) h]
  exact gram_braces u v k z r hk
/-- A list that ends, with more behind: on from the end of a matcher. -/
theorem app_run (t2 : List (Int × ByteArray)) (r : List S25) : ∀ (k : Nat) (fn : Pn) (ms m0 : List S25) (ts : List (Int × ByteArray)), fn.mid → runG true k fn ⟨ms, false, ts⟩ = some m0 → (∀ z, ts.getLast? = some z → z.1 ≠ 3) →
    ∀ j, runG true j .en ⟨m0, false, t2⟩ = some r → ∃ k', runG true k' fn ⟨ms, false, ts ++ t2⟩ = some r
  | 0, _, _, _, _, _, h, _, _, _ => by cases h
  | k + 1, .ma, ms, m0, ts, _, h, hl, j, hj => by
    rw [runG] at h
    unfold stepG at h
    simp only at h
    cases hm : mat3 ts with
    | none => rw [hm] at h; cases h
    | some x =>
      obtain ⟨m, q⟩ := x
      rw [hm] at h
      obtain ⟨k', hk'⟩ := app_run t2 r k .en (ms ++ [m]) m0 q trivial h (fun z hz => by
        obtain ⟨a, b, c, d, e, f, _, _, e1, _⟩ := mat3_some hm
        refine hl z ?_
        rw [e1]
        cases q with
        | nil => cases hz
        | cons p q => simpa [List.getLast?_cons_cons] using hz) j hj
      refine ⟨k' + 1, ?_⟩
      rw [runG]
      unfold stepG
      simp only
      rw [mat3_app hm]
      exact hk'
  | k + 1, .en, ms, m0, [], _, h, _, j, hj => by
    rw [runG] at h
    have h : runG true k .cb ⟨ms, false, []⟩ = some m0 := h
    match k, h with
    | 0, h => cases h
    | 1, h => cases h
    | k + 2, h =>
      have e : ms = m0 := Option.some.inj h
      subst e
      exact ⟨j, hj⟩
  | k + 1, .en, ms, m0, (i, u) :: q, _, h, hl, j, hj => by
    rw [runG] at h
    unfold stepG at h
    simp only at h
    by_cases h3 : i = 3
    · rw [if_pos h3] at h
      obtain ⟨k', hk'⟩ := app_run t2 r k .co ms m0 ((i, u) :: q) trivial h hl j hj
      refine ⟨k' + 1, ?_⟩
      rw [runG]
      unfold stepG
      simp only [List.cons_append]
      rw [if_pos h3]
      exact hk'
    · rw [if_neg h3] at h
      by_cases h2 : i = 2
      · rw [if_pos h2] at h
        subst h2
        have h : runG true k .cb ⟨ms, false, (2, u) :: q⟩ = some m0 := h
        rw [cb_no] at h
        cases h
      · rw [if_neg h2] at h
        cases h
  | k + 1, .co, ms, m0, [], _, h, _, _, _ => by cases h
  | k + 1, .co, ms, m0, (i, u) :: q, _, h, hl, j, hj => by
    rw [runG] at h
    by_cases h3 : i = 3
    · match q, h, hl with
      | [], h, hl => exact absurd h3 (hl (i, u) rfl)
      | (i2, u2) :: q2, h, hl =>
        unfold stepG at h
        simp only [if_pos h3] at h
        by_cases h2 : i2 = 2
        · rw [if_pos h2] at h
          subst h2
          have h : runG true k .cb ⟨ms, false, (2, u2) :: q2⟩ = some m0 := h
          rw [cb_no] at h
          cases h
        · rw [if_neg h2] at h
          by_cases h8 : i2 = 8 ∨ i2 = 9
          · rw [if_pos h8] at h
            obtain ⟨k', hk'⟩ := app_run t2 r k .ma ms m0 ((i2, u2) :: q2) trivial h (fun z hz => hl z (by rw [List.getLast?_cons_cons]; exact hz)) j hj
            refine ⟨k' + 1, ?_⟩
            rw [runG]
            unfold stepG
            simp only [List.cons_append, if_pos h3]
            rw [if_neg h2, if_pos h8]
            exact hk'
          · rw [if_neg h8] at h
            cases h
    · unfold stepG at h
      simp only [if_neg h3] at h
      cases h
/-- What a list without braces that is no empty one begins with. -/
theorem gram_bare {k : Int} {z : ByteArray} {r : List (Int × ByteArray)} {m0 : List S25} (hk : k ≠ 1) (h : gram true ((k, z) :: r) = some m0) : k ≠ 2 ∧ (k = 8 ∨ k = 9) ∧ ∃ n, runG true n .ma ⟨[], false, (k, z) :: r⟩ = some m0 := by
  rw [gram_runG ((k, z) :: r) (4 * r.length + 19 + 1) (by simp; omega), runG] at h
  have e2 : stepG true .ob ⟨[], false, (k, z) :: r⟩ = if k = 2 then some (some .cb, ⟨[], false, (k, z) :: r⟩) else some (some .ma, ⟨[], false, (k, z) :: r⟩) := by
    unfold stepG
    simp only [if_neg hk]
  rw [e2] at h
  by_cases h2 : k = 2
  · rw [if_pos h2] at h
    subst h2
    have h : runG true (4 * r.length + 19) .cb ⟨[], false, (2, z) :: r⟩ = some m0 := h
    rw [cb_no] at h
    cases h
  · rw [if_neg h2] at h
    have h : runG true (4 * r.length + 19) .ma ⟨[], false, (k, z) :: r⟩ = some m0 := h
    refine ⟨h2, ?_, _, h⟩
    rw [runG] at h
    unfold stepG at h
    simp only at h
    cases hm : mat3 ((k, z) :: r) with
    | none => rw [hm] at h; cases h
    | some x =>
      obtain ⟨m, q⟩ := x
      obtain ⟨a, b, c, d, e, f, _, _, e1, h8, _⟩ := mat3_some hm
      injection e1 with e1 _
      injection e1 with e1 _
      rw [e1]
      exact h8
theorem gram_append (u : ByteArray) {k k2 : Int} {z z2 : ByteArray} {r r2 : List (Int × ByteArray)} {m0 m1 : List S25} (hk : k ≠ 1) (hk2 : k2 ≠ 1) (h : gram true ((k, z) :: r) = some m0) (h2 : gram true ((k2, z2) :: r2) = some m1)
    (hl : ∀ y, ((k, z) :: r).getLast? = some y → y.1 ≠ 3) : gram true ((k, z) :: r ++ (3, u) :: ((k2, z2) :: r2)) = some (m0 ++ m1) := by
  obtain ⟨a1, _, n, a3⟩ := gram_bare hk h
  obtain ⟨b1, b2, n2, b3⟩ := gram_bare hk2 h2
  have hj : runG true (n2 + 2) .en ⟨m0, false, (3, u) :: ((k2, z2) :: r2)⟩ = some (m0 ++ m1) := by
    rw [runG]
    show runG true (n2 + 1) .co ⟨m0, false, (3, u) :: ((k2, z2) :: r2)⟩ = _
    rw [runG]
    have e : stepG true .co ⟨m0, false, (3, u) :: ((k2, z2) :: r2)⟩ = if k2 = 2 then some (some .cb, ⟨m0, false, (k2, z2) :: r2⟩) else if k2 = 8 ∨ k2 = 9 then some (some .ma, ⟨m0, false, (k2, z2) :: r2⟩) else none := rfl
    rw [e, if_neg b1, if_pos b2]
    have p := runG_pre (ok := true) m0 n2 .ma [] false ((k2, z2) :: r2)
    rw [List.append_nil, b3] at p
    exact p
  obtain ⟨k', hk'⟩ := app_run ((3, u) :: ((k2, z2) :: r2)) (m0 ++ m1) n .ma [] m0 ((k, z) :: r) trivial a3 hl _ hj
  have hob : runG true (k' + 1) .ob ⟨[], false, (k, z) :: r ++ (3, u) :: ((k2, z2) :: r2)⟩ = some (m0 ++ m1) := by
    rw [runG]
    have e2 : stepG true .ob ⟨[], false, (k, z) :: r ++ (3, u) :: ((k2, z2) :: r2)⟩ = if k = 2 then some (some .cb, ⟨[], false, (k, z) :: r ++ (3, u) :: ((k2, z2) :: r2)⟩) else some (some .ma, ⟨[], false, (k, z) :: r ++ (3, u) :: ((k2, z2) :: r2)⟩) := by
      unfold stepG
      simp only [List.cons_append, if_neg hk]
    rw [e2, if_neg a1]
    exact hk'
  rw [gram_runG _ (k' + 1 + (4 * ((k, z) :: r ++ (3, u) :: ((k2, z2) :: r2)).length + 4)) (by omega)]
  exact runG_more _ _ _ _ hob _ (by omega)
/-- Two texts with a comma between: the one's matchers, then the other's. -/
theorem parF_append {a b : ByteArray} {k k2 : Int} {z z2 : ByteArray} {r r2 : List (Int × ByteArray)} {m0 m1 : List S25} (hz : a.size + b.size + 1 ≤ 4294967296) (ha : TK a lx0 ((k, z) :: r) true) (hb : TK b lx0 ((k2, z2) :: r2) true) (hk : k ≠ 1) (hk2 : k2 ≠ 1)
    (h : parF a = some m0) (h2 : parF b = some m1) (hl : ∀ y, ((k, z) :: r).getLast? = some y → y.1 ≠ 3) : parF ((a ++ ⟨#[44]⟩) ++ b) = some (m0 ++ m1) := by
  rw [parF_gram (by omega) ha] at h
  rw [parF_gram (by omega) hb] at h2
  obtain ⟨u, hc⟩ := TK.comma hz ha hb
  rw [parF_gram (by rw [ByteArray.size_append, ByteArray.size_append]; show a.size + 1 + b.size ≤ _; omega) hc]
  exact gram_append u hk hk2 h h2 hl
end Go.Proofs.YtnnhehlieakedaaGreatDoor.Q
