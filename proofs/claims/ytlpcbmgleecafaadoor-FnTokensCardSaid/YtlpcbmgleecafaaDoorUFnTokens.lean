/- FnTokens: the lexer's tokens are the reference's: for every text. -/
import Derived.Test.YtlpcbmgleecafaaDoorQlawsFnTokens
import Derived.Test.YtlpcbmgleecafaaDoorULexM
import Derived.Test.YtlpcbmgleecafaaDoorULexT
set_option linter.unusedVariables false
set_option linter.unusedSimpArgs false
namespace Go.Proofs.YtlpcbmgleecafaaDoor.Q
open Go.RowKit Go.Lib Go.Proofs.YtlpcbmgleecafaaDoorW.PrintWords Go.Proofs.YtlpcbmgleecafaaDoorW.PrintLast Go.Proofs.YtlpcbmgleecafaaDoorW.PrintMore
theorem toks_lenT (s : ByteArray) : ∀ (n : Nat) (x : LSt), (toksF s n x).1.length ≤ n
  | 0, _ => Nat.le_refl _
  | n + 1, x => by
    unfold toksF
    split
    · exact Nat.zero_le _
    · exact Nat.zero_le _
    · exact Nat.succ_le_succ (toks_lenT s n _)
theorem same_loop (ts : List S26) (hl : ts.length ≤ 1000000) : Ev (fun k => laws_FnTokens.l0 k ts (ts.map cvT) (ts.length : Int) 0) true := by
  have key : ∀ (n i : Nat), i + n = ts.length → Ev (fun k => laws_FnTokens.l0 k ts (ts.map cvT) (ts.length : Int) (i : Int)) true := by
    intro n
    induction n with
    | zero =>
      intro i hi
      refine Ev.now 1 (fun k => ?_)
      simp only [laws_FnTokens.l0]
      rw [if_neg (by omega)]
    | succ n ih =>
      intro i hi
      have hlt : i < ts.length := by omega
      have hrd : rd_T26 ts (i : Int) = ts[i] := by simp [rd_T26, List.getD_eq_getElem?_getD, List.getElem?_eq_getElem hlt]
      have hrd2 : rd_T31 (ts.map cvT) (i : Int) = cvT ts[i] := by
        unfold rd_T31
        rw [Int.toNat_natCast, List.getD_eq_getElem?_getD, List.getElem?_map, List.getElem?_eq_getElem hlt]
        rfl
      refine Ev.step (ih (i + 1) (by omega)) 1 (fun k => ?_)
      simp only [laws_FnTokens.l0]
      rw [if_pos (by omega), if_pos (by omega), if_pos (by omega), if_pos (by rw [List.length_map]; omega), hrd, hrd2, if_neg (by simp [cvT]), w64s i (by omega)]
  exact key ts.length 0 (by omega)
theorem laws_FnTokens.pure : ∀ (a0 : ByteArray), a0.size ≤ 140737488351232 → ∃ k, laws_FnTokens.f k a0 = some true := by
  intro a0 _
  apply Ev.has
  obtain ⟨l, rfl⟩ : ∃ l, a0 = mk l := ⟨a0.data.toList, by cases a0; rfl⟩
  unfold laws_FnTokens.f
  by_cases hbig : ((mk l).size : Int) > 2147483647
  · exact Ev.iteT hbig (Ev.const _)
  refine Ev.iteF hbig ?_
  refine Ev.bindc brace_is ?_
  refine Ev.iteT rfl ?_
  show Ev (fun k => laws_FnTokens.j0 k (mk l) false) true
  by_cases h5 : ((mk l).size : Int) > 20000
  · refine Ev.now 1 (fun k => ?_)
    simp only [laws_FnTokens.j0]
    rw [if_neg (by decide), if_pos h5]
  have hz := mk_size l
  have hl : l.length ≤ 20000 := by omega
  have himp : impl_Tokens.f (mk l) = some (toksF (mk l) ((mk l).size + 2) lx0) := by unfold impl_Tokens.f; rw [if_pos (by omega)]
  have hg : LGd (mk l) lx0 := ⟨by show (0 : Int) ≤ _; omega, by decide, by decide, by decide, by decide, by decide, by decide, by decide, by omega⟩
  generalize ho : toksF (mk l) ((mk l).size + 2) lx0 = o at himp
  have hlen : o.1.length ≤ 1000000 := by have := toks_lenT (mk l) ((mk l).size + 2) lx0; rw [ho] at this; omega
  let G : Nat → (List S31 × Int) → Option Bool := fun k b => if b.2 = 0 then some (!o.2) else if b.2 = 2 then some true else if o.2 = true then laws_FnTokens.j1 k o.1 b.1 ((o.1.length : Int) != (b.1.length : Int)) else laws_FnTokens.j1 k o.1 b.1 true
  refine Ev.step (G := fun k => (spec_Tokens.f k (mk l)).bind (G k)) ?_ 1 (fun k => by simp only [laws_FnTokens.j0]; rw [if_neg (by decide), if_neg h5, himp]; rfl)
  obtain ⟨b, hb, hs⟩ := settled_is l (by omega)
  cases b
  · refine Ev.bind (a := ([], 2)) ?_ ?_
    · unfold spec_Tokens.f
      refine Ev.bind (G := fun k t => if t = true then spec_Tokens.l0 k (mk l) ([] : List S31) 0 else some (([] : List S31), 2)) hb ?_
      exact Ev.iteF (by decide) (Ev.const _)
    · exact Ev.iteF (by decide) (Ev.iteT rfl (Ev.const _))
  · have ht := toks_is l (hs rfl) (by omega) l.length 0 ((mk l).size + 1) ((mk l).size + 1) lx0 [] 0 (by omega) (Nat.le_refl _) (by omega) (by omega) (by omega) (Nat.le_refl _) hg rfl rfl rfl rfl (.nil 0) (hs rfl).valid
    rw [← toksF_J, ho, List.nil_append] at ht
    refine Ev.bind (a := (o.1.map cvT, if o.2 = true then 1 else 0)) ?_ ?_
    · unfold spec_Tokens.f
      refine Ev.bind (G := fun k t => if t = true then spec_Tokens.l0 k (mk l) ([] : List S31) 0 else some (([] : List S31), 2)) hb ?_
      exact Ev.iteT rfl ht
    · cases h2 : o.2
      · refine Ev.iteT rfl ?_
        simpa [h2] using Ev.const true
      · refine Ev.iteF (by show ¬ ((1 : Int) = 0); decide) (Ev.iteF (by show ¬ ((1 : Int) = 2); decide) (Ev.iteT h2 ?_))
        refine Ev.step (same_loop o.1 hlen) 1 (fun k => ?_)
        simp only [laws_FnTokens.j1]
        rw [if_neg (by simp)]
end Go.Proofs.YtlpcbmgleecafaaDoor.Q
