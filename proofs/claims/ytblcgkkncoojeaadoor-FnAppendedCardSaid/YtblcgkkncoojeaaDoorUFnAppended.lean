/- FnAppended -/
import Derived.Test.YtblcgkkncoojeaaDoorQlawsFnAppended
import Derived.Test.YtblcgkkncoojeaaDoorUParL
set_option linter.unusedVariables false
set_option linter.unusedSimpArgs false
namespace Go.Proofs.YtblcgkkncoojeaaDoor.Q
open Go.RowKit Go.Proofs.YtblcgkkncoojeaaDoorW.PrintWords Go.Proofs.YtblcgkkncoojeaaDoorW.PrintLast Go.Proofs.YtblcgkkncoojeaaDoorW.PrintMore
/-- What bare says: a text that is short, is a list without braces, and its matchers. -/
theorem bare_f (a0 : ByteArray) (hs : a0.size ≤ 2147483647) : ∃ ms ts b, (∀ k, a0.size + 2 ≤ k → laws_bare.f k a0 = some (ms, ts, b)) ∧
    (b = true → a0.size ≤ 5000 ∧ parF a0 = some ms ∧ ∃ t0 r, ts = t0 :: r ∧ t0.f0 ≠ 1 ∧ TK a0 lx0 ((t0.f0, t0.f1) :: r.map fun t => (t.f0, t.f1)) true) := by
  obtain ⟨c, hc⟩ := has_f a0 126 (by omega)
  have hj : ∀ c, (c = false → a0.size ≤ 5000) → ∃ ms ts b, (∀ k, 1 ≤ k → laws_bare.j0 k a0 c = some (ms, ts, b)) ∧
    (b = true → a0.size ≤ 5000 ∧ parF a0 = some ms ∧ ∃ t0 r, ts = t0 :: r ∧ t0.f0 ≠ 1 ∧ TK a0 lx0 ((t0.f0, t0.f1) :: r.map fun t => (t.f0, t.f1)) true) := by
    intro c hc
    cases c with
    | true =>
      refine ⟨[], [], false, fun k hk => ?_, fun e => by cases e⟩
      obtain ⟨k, rfl⟩ : ∃ j, k = j + 1 := ⟨k - 1, by omega⟩
      rw [laws_bare.j0, if_pos rfl]
    | false =>
      have hz := hc rfl
      have ht : impl_Tokens.f a0 = some (toksF a0 (a0.size + 2) lx0) := if_pos (by omega)
      have tk := toks_TK (s := a0) (a0.size + 2) lx0 (lx0_good a0 (by omega)) (by have : lx0.p.toNat = 0 := rfl; omega)
      have hm := pm_f a0 (by omega)
      have hpm : ∀ l, pmR a0 = (l, true) → parF a0 = some l := by
        intro l e
        unfold pmR at e
        cases hp : parF a0 with
        | none => rw [hp] at e; cases e
        | some l2 => rw [hp] at e; exact congrArg some (Prod.mk.inj e).1
      generalize toksF a0 (a0.size + 2) lx0 = o at *
      obtain ⟨l, ok⟩ := o
      generalize pmR a0 = q at *
      obtain ⟨ms, ok2⟩ := q
      have non : ∀ {k : Nat} {X : Option (List S38 × List S28 × Bool)}, X = some (ms, l, false) → laws_bare.j0 (k + 1) a0 false = (if false = true then (some (([] : List S38), ([] : List S28), false)) else X) → laws_bare.j0 (k + 1) a0 false = some (ms, l, false) := fun e1 e2 => by rw [e2, if_neg (by decide), e1]
      have key : ∀ k, 1 ≤ k → laws_bare.j0 k a0 false = (if ok = true then (if ok2 = true then (if (l.length : Int) > 0 then (if (ms.length : Int) > 0 then (if 0 < (l.length : Int) then (some (ms, l, (((rd_T28 l 0).f0) != 1))) else (none)) else (some (ms, l, false))) else (some (ms, l, false))) else (some (ms, l, false))) else (some (ms, l, false))) := by
        intro k hk
        obtain ⟨k, rfl⟩ : ∃ j, k = j + 1 := ⟨k - 1, by omega⟩
        rw [laws_bare.j0, if_neg (by decide), ht, hm, Option.bind_some, Option.bind_some]
      cases ok with
      | false => exact ⟨ms, l, false, fun k hk => (key k hk).trans (if_neg (by decide)), fun e => by cases e⟩
      | true =>
      cases ok2 with
      | false => exact ⟨ms, l, false, fun k hk => (key k hk).trans ((if_pos rfl).trans (if_neg (by decide))), fun e => by cases e⟩
      | true =>
      match l, tk, key with
      | [], _, key => exact ⟨ms, [], false, fun k hk => (key k hk).trans ((if_pos rfl).trans ((if_pos rfl).trans (if_neg (by simp)))), fun e => by cases e⟩
      | t0 :: r, tk, key =>
        simp only [List.map_cons] at tk
        have e0 : rd_T28 (t0 :: r) 0 = t0 := rfl
        by_cases hms : (ms.length : Int) > 0
        · refine ⟨ms, t0 :: r, t0.f0 != 1, fun k hk => ?_, fun e => ⟨hz, hpm ms rfl, t0, r, rfl, by simpa using e, tk⟩⟩
          rw [key k hk, if_pos rfl, if_pos rfl, if_pos (by simp <;> omega), if_pos hms, if_pos (by simp <;> omega), e0]
        · refine ⟨ms, t0 :: r, false, fun k hk => ?_, fun e => by cases e⟩
          rw [key k hk, if_pos rfl, if_pos rfl, if_pos (by simp <;> omega), if_neg hms]
  by_cases h2 : (a0.size : Int) > 5000
  · obtain ⟨ms, ts, b, h, h3⟩ := hj true (fun e => by cases e)
    refine ⟨ms, ts, b, fun k hk => ?_, h3⟩
    rw [laws_bare.f, if_pos h2]
    exact h k (by omega)
  · obtain ⟨ms, ts, b, h, h3⟩ := hj c (fun _ => by omega)
    refine ⟨ms, ts, b, fun k hk => ?_, h3⟩
    rw [laws_bare.f, if_neg h2, hc k (by omega), Option.bind_some]
    exact h k (by omega)
theorem laws_FnAppended.pure : ∀ (a0 a1 : ByteArray), a0.size ≤ 140737488351232 → a1.size ≤ 140737488351232 → ∃ k, laws_FnAppended.f k a0 a1 = some true := by
  intro a0 a1 hs hs1
  refine ⟨a0.size + a1.size + 10, ?_⟩
  unfold laws_FnAppended.f
  have j0t : laws_FnAppended.j0 (a0.size + a1.size + 10) a0 a1 true = some true := by rw [laws_FnAppended.j0, if_pos rfl]
  by_cases h1 : (a0.size : Int) > 2147483647
  · rw [if_pos h1]; exact j0t
  · rw [if_neg h1]
    by_cases h2 : (a1.size : Int) > 2147483647
    · rw [decide_eq_true h2]; exact j0t
    · rw [decide_eq_false h2, laws_FnAppended.j0, if_neg (by decide), one_f, Option.bind_some, if_pos rfl]
      obtain ⟨m0, ts0, b0, e0, q0⟩ := bare_f a0 (by omega)
      obtain ⟨m1, ts1, b1, e1, q1⟩ := bare_f a1 (by omega)
      rw [e0 _ (by omega), e1 _ (by omega), Option.bind_some, Option.bind_some]
      have j1t : laws_FnAppended.j1 (a0.size + a1.size + 9) a0 a1 m0 m1 true = some true := by rw [laws_FnAppended.j1, if_pos rfl]
      cases b0 with
      | false => exact (if_neg Bool.false_ne_true).trans j1t
      | true =>
      cases b1 with
      | false => exact (if_pos rfl).trans ((if_neg Bool.false_ne_true).trans j1t)
      | true =>
      obtain ⟨z0, p0, t0, r0, rfl, k0, tk0⟩ := q0 rfl
      obtain ⟨z1, p1, t1, r1, rfl, k1, tk1⟩ := q1 rfl
      have hl0 := tk0.len (lx0_good a0 (by omega))
      have hlen0 : r0.length + 1 ≤ a0.size := by simp at hl0; omega
      have hw : wrap64 (((t0 :: r0).length : Int) - 1) = (r0.length : Int) := by
        rw [List.length_cons]
        unfold wrap64
        omega
      simp only [if_true, hw]
      rw [if_pos (by omega), if_pos (by rw [List.length_cons]; omega)]
      by_cases hk : (rd_T28 (t0 :: r0) (r0.length : Int)).f0 = 3
      · rw [hk]; exact j1t
      · rw [beq_eq_false_iff_ne.2 hk, laws_FnAppended.j1, if_neg (by decide)]
        have hz2 : (a0 ++ (⟨#[44]⟩ : ByteArray)).size = a0.size + 1 := ByteArray.size_append
        have hz3 : ((a0 ++ (⟨#[44]⟩ : ByteArray)) ++ a1).size = a0.size + 1 + a1.size := by rw [ByteArray.size_append, hz2]
        have hp := parF_append (by omega) tk0 tk1 k0 k1 p0 p1 (by
          intro y hy
          have e : ((t0.f0, t0.f1) :: r0.map fun t => (t.f0, t.f1)) = (t0 :: r0).map fun t => (t.f0, t.f1) := rfl
          rw [e, List.getLast?_map] at hy
          have hy2 : (t0 :: r0).getLast? = some (rd_T28 (t0 :: r0) (r0.length : Int)) := by
            have e : rd_T28 (t0 :: r0) (r0.length : Int) = (t0 :: r0)[r0.length]'(by simp) := by unfold rd_T28; rw [Int.toNat_natCast, List.getD_eq_getElem?_getD, List.getElem?_eq_getElem (by simp)]; rfl
            rw [List.getLast?_eq_getElem?, e, List.length_cons, Nat.add_sub_cancel, List.getElem?_eq_getElem (by simp)]
          rw [hy2] at hy
          rw [← Option.some.inj hy]
          exact hk)
        rw [if_pos (by omega), if_pos (by omega), pm_f _ (by omega), Option.bind_some]
        have e2 : pmR ((a0 ++ (⟨#[44]⟩ : ByteArray)) ++ a1) = (m0 ++ m1, true) := by unfold pmR; rw [hp]
        have l0 := parF_size (by omega) p0
        have l1 := parF_size (by omega) p1
        rw [e2]
        simp only [if_true, Option.bind_some, List.nil_append, List.length_nil]
        rw [if_pos (by omega), if_pos (by omega), eqm_f _ (by rw [List.length_append]; omega) _ (by rw [List.length_append]; omega)]
        rfl
end Go.Proofs.YtblcgkkncoojeaaDoor.Q
