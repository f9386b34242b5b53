/- Plain words: a token takes at least one byte; the tokens of a text. No condition. -/
import Derived.Test.YtlpcbmgleecafaaDoorHLexH
set_option linter.unusedVariables false
set_option linter.unusedSimpArgs false
namespace Go.Proofs.YtlpcbmgleecafaaDoor.Q
open Go.RowKit Go.Lib Go.Proofs.YtlpcbmgleecafaaDoorW.PrintWords Go.Proofs.YtlpcbmgleecafaaDoorW.PrintLast Go.Proofs.YtlpcbmgleecafaaDoorW.PrintMore
section
variable {s : ByteArray} {x y : LSt}
theorem hasR_neg (c : ByteArray) : hasR c (-1) = false := by
  unfold hasR okR
  simp
theorem nextS_le (h : LGd s x) : x.p ≤ (nextS s x).p := by
  by_cases hr : nextR s x.p = -1
  · have := (nextR_end h).1 hr
    unfold nextS
    rw [if_neg (by omega)]
    exact Int.le_refl _
  · exact Int.le_of_lt (nextS_on h hr).1
theorem back_p (h : LGd s x) : (backS (nextS s x)).p = x.p := by rw [back_next h]
theorem acS_le (h : LGd s x) (c : ByteArray) : x.p ≤ (acS s x c).p := by
  unfold acS
  split
  · exact nextS_le h
  · rw [back_p h]; exact Int.le_refl _
theorem acS_lt (h : LGd s x) (c : ByteArray) (hb : acB s x c = true) : x.p < (acS s x c).p := by
  unfold acS
  rw [if_pos hb]
  refine (nextS_on h (fun e => ?_)).1
  unfold acB at hb
  rw [e, hasR_neg] at hb
  cases hb
theorem opF_good (h : LGd s x) : LGd s (opF s x).2 := by
  have a1 := h.ac ⟨#[33]⟩
  have a2 := a1.ac ⟨#[61]⟩
  have a3 := a2.ac ⟨#[126]⟩
  unfold opF
  repeat' split
  all_goals first | exact a3 | exact a2
theorem opF_tok (h : LGd s x) (k : Int) (hk : (opF s x).1 = some k) : x.p < (opF s x).2.p ∧ 4 ≤ k ∧ k ≤ 7 := by
  have a1 := h.ac ⟨#[33]⟩
  have a2 := a1.ac ⟨#[61]⟩
  have l1 := acS_le h ⟨#[33]⟩
  have l2 := acS_le a1 ⟨#[61]⟩
  have l3 := acS_le a2 ⟨#[126]⟩
  unfold opF at hk ⊢
  by_cases h1 : acB s x ⟨#[33]⟩ = true
  · have m1 := acS_lt h _ h1
    rw [if_pos h1] at hk ⊢
    by_cases h2 : acB s (acS s x ⟨#[33]⟩) ⟨#[61]⟩ = true
    · rw [if_pos h2] at hk ⊢
      have : k = 5 := (Option.some.inj hk).symm
      exact ⟨by show x.p < (acS s (acS s x ⟨#[33]⟩) ⟨#[61]⟩).p; omega, by omega, by omega⟩
    · rw [if_neg h2] at hk ⊢
      by_cases h3 : acB s (acS s (acS s x ⟨#[33]⟩) ⟨#[61]⟩) ⟨#[126]⟩ = true
      · rw [if_pos h3] at hk ⊢
        have : k = 7 := (Option.some.inj hk).symm
        exact ⟨by show x.p < (acS s (acS s (acS s x ⟨#[33]⟩) ⟨#[61]⟩) ⟨#[126]⟩).p; omega, by omega, by omega⟩
      · rw [if_neg h3] at hk; cases hk
  · rw [if_neg h1] at hk ⊢
    by_cases h2 : acB s (acS s x ⟨#[33]⟩) ⟨#[61]⟩ = true
    · have m2 := acS_lt a1 _ h2
      rw [if_pos h2] at hk ⊢
      by_cases h3 : acB s (acS s (acS s x ⟨#[33]⟩) ⟨#[61]⟩) ⟨#[126]⟩ = true
      · rw [if_pos h3] at hk ⊢
        have : k = 6 := (Option.some.inj hk).symm
        exact ⟨by show x.p < (acS s (acS s (acS s x ⟨#[33]⟩) ⟨#[61]⟩) ⟨#[126]⟩).p; omega, by omega, by omega⟩
      · rw [if_neg h3] at hk ⊢
        have : k = 4 := (Option.some.inj hk).symm
        exact ⟨by show x.p < (acS s (acS s (acS s x ⟨#[33]⟩) ⟨#[61]⟩) ⟨#[126]⟩).p; omega, by omega, by omega⟩
    · rw [if_neg h2] at hk; cases hk
theorem quotS_le : ∀ (k : Nat) (esc : Bool) {x : LSt}, LGd s x → x.p ≤ (quotS s k esc x).p
  | 0, _, x, _ => Int.le_refl _
  | k + 1, esc, x, h => by
    have hn := nextS_le h
    rw [quotS]
    split
    · exact hn
    · split
      · exact Int.le_trans hn (quotS_le k _ h.next)
      · split
        · exact Int.le_trans hn (quotS_le k _ h.next)
        · split
          · rw [back_p h]; exact Int.le_refl _
          · exact Int.le_trans hn (quotS_le k _ h.next)
theorem quoF_good (h : LGd s x) : LGd s (quoF s x).2 := by
  unfold quoF
  split
  · exact (LGd.quot _ _ (h.ac _)).ac _
  · exact h.ac _
theorem quoF_tok (h : LGd s x) (k : Int) (hk : (quoF s x).1 = some k) : x.p < (quoF s x).2.p ∧ k = 8 := by
  unfold quoF at hk ⊢
  by_cases h1 : acB s x ⟨#[34]⟩ = true
  · rw [if_pos h1] at hk ⊢
    have m1 := acS_lt h _ h1
    have m2 := quotS_le (s.size + 1) false (h.ac ⟨#[34]⟩)
    have m3 := acS_le (LGd.quot (s.size + 1) false (h.ac ⟨#[34]⟩)) ⟨#[34]⟩
    refine ⟨by show x.p < (acS s (quotS s (s.size + 1) false (acS s x ⟨#[34]⟩)) ⟨#[34]⟩).p; omega, ?_⟩
    simp only at hk
    split at hk
    · exact (Option.some.inj hk).symm
    · cases hk
  · rw [if_neg h1] at hk; cases hk
theorem wordS_le : ∀ (k : Nat) {x : LSt}, LGd s x → x.p ≤ (wordS s k x).p
  | 0, x, _ => Int.le_refl _
  | k + 1, x, h => by
    have hn := nextS_le h
    rw [wordS]
    split
    · exact hn
    · split
      · rw [back_p h]; exact Int.le_refl _
      · exact Int.le_trans hn (wordS_le k h.next)
theorem of_tok {o : Option Int} {k : Int} (h : Sc.of o = .tok k) : o = some k := by
  cases o with
  | none => cases h
  | some j => injection h with e; rw [e]
theorem scan1_good (h : LGd s x) (c : Sc) (hc : scan1 s x = some (c, y)) : LGd s y ∧ ∀ k, c = .tok k → x.p < y.p ∧ 1 ≤ k ∧ k ≤ 9 := by
  have hb := h.back
  have hbp := back_p h
  unfold scan1 at hc
  simp only at hc
  by_cases h1 : nextR s x.p = -1
  · rw [if_pos h1] at hc
    obtain ⟨rfl, rfl⟩ := Prod.mk.inj (Option.some.inj hc)
    exact ⟨h.next, fun k e => by cases e⟩
  have hlt := (nextS_on h h1).1
  rw [if_neg h1] at hc
  have one : ∀ k : Int, 1 ≤ k → k ≤ 9 → some (Sc.tok k, nextS s x) = some (c, y) → LGd s y ∧ ∀ k, c = .tok k → x.p < y.p ∧ 1 ≤ k ∧ k ≤ 9 := fun k k1 k2 e => by
    obtain ⟨rfl, rfl⟩ := Prod.mk.inj (Option.some.inj e)
    exact ⟨h.next, fun j e => by injection e with e; exact ⟨hlt, by omega, by omega⟩⟩
  by_cases h2 : nextR s x.p = 123
  · rw [if_pos h2] at hc; exact one 1 (by omega) (by omega) hc
  rw [if_neg h2] at hc
  by_cases h3 : nextR s x.p = 125
  · rw [if_pos h3] at hc; exact one 2 (by omega) (by omega) hc
  rw [if_neg h3] at hc
  by_cases h4 : nextR s x.p = 44
  · rw [if_pos h4] at hc; exact one 3 (by omega) (by omega) hc
  rw [if_neg h4] at hc
  by_cases h5 : nextR s x.p = 61 ∨ nextR s x.p = 33
  · rw [if_pos h5] at hc
    obtain ⟨e1, rfl⟩ := Prod.mk.inj (Option.some.inj hc)
    refine ⟨opF_good hb, fun k e => ?_⟩
    have := opF_tok hb k (of_tok (e1.trans e))
    exact ⟨by omega, by omega, by omega⟩
  rw [if_neg h5] at hc
  by_cases h6 : nextR s x.p = 34
  · rw [if_pos h6] at hc
    obtain ⟨e1, rfl⟩ := Prod.mk.inj (Option.some.inj hc)
    refine ⟨quoF_good hb, fun k e => ?_⟩
    have := quoF_tok hb k (of_tok (e1.trans e))
    exact ⟨by omega, by omega, by omega⟩
  rw [if_neg h6] at hc
  by_cases h7 : resR (nextR s x.p) = false
  · rw [if_pos h7] at hc
    obtain ⟨rfl, rfl⟩ := Prod.mk.inj (Option.some.inj hc)
    refine ⟨LGd.word _ hb, fun k e => ?_⟩
    injection e with e
    refine ⟨?_, by omega, by omega⟩
    rw [wordS, hbp, if_neg h1, if_neg (by rw [h7]; decide)]
    have m1 := (nextS_on hb (by rw [hbp]; exact h1)).1
    have m2 := wordS_le s.size hb.next
    omega
  rw [if_neg h7] at hc
  split at hc
  · cases hc
  · obtain ⟨rfl, rfl⟩ := Prod.mk.inj (Option.some.inj hc)
    exact ⟨h.next, fun k e => by cases e⟩
theorem scanF_good : ∀ (n : Nat) {x : LSt}, LGd s x → ∀ (c : Sc) (y : LSt), scanF s n x = (c, y) → LGd s y ∧ ∀ k, c = .tok k → x.p < y.p ∧ 1 ≤ k ∧ k ≤ 9
  | 0, x, h, c, y, e => by
    obtain ⟨rfl, rfl⟩ := Prod.mk.inj e
    exact ⟨h, fun k e => by cases e⟩
  | n + 1, x, h, c, y, e => by
    have e' : (match scan1 s x with | some z => z | none => scanF s n (skipS (nextS s x))) = (c, y) := e
    cases hs : scan1 s x with
    | some z =>
      rw [hs] at e'
      simp only at e'
      rw [e'] at hs
      exact scan1_good h c hs
    | none =>
      rw [hs] at e'
      have := scanF_good n h.next.skip c y e'
      have h2 := nextS_le h
      refine ⟨this.1, fun k ek => ?_⟩
      have h3 := this.2 k ek
      have h4 : (skipS (nextS s x)).p = (nextS s x).p := rfl
      exact ⟨by omega, h3.2⟩
end
/-- A token as data. -/
def tokD (s : ByteArray) (k : Int) (y : LSt) : S26 := ⟨k, s.extract y.st.toNat y.p.toNat, y.st, y.p, y.cl, y.cs⟩
/-- The tokens of a text from a state on; true: up to the text's end. -/
def toksF (s : ByteArray) : Nat → LSt → List S26 × Bool
  | 0, _ => ([], false)
  | k + 1, x => match scanF s (s.size + 1) x with
    | (.eof, _) => ([], true)
    | (.bad, _) => ([], false)
    | (.tok kd, y) => (tokD s kd y :: (toksF s k (emitS y)).1, (toksF s k (emitS y)).2)
end Go.Proofs.YtlpcbmgleecafaaDoor.Q
