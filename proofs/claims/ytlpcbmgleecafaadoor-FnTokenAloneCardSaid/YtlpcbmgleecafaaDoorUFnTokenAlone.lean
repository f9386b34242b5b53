/- FnTokenAlone: the text of each token is that token alone: for every text. -/
import Derived.Test.YtlpcbmgleecafaaDoorQlawsFnTokenAlone
import Derived.Test.YtlpcbmgleecafaaDoorULexR
import Derived.Test.YtlpcbmgleecafaaDoorULexT
import Derived.Test.YtlpcbmgleecafaaDoorUBy
set_option linter.unusedVariables false
set_option linter.unusedSimpArgs false
namespace Go.Proofs.YtlpcbmgleecafaaDoor.Q
open Go.RowKit Go.Lib Go.Proofs.YtlpcbmgleecafaaDoorW.PrintWords Go.Proofs.YtlpcbmgleecafaaDoorW.PrintLast Go.Proofs.YtlpcbmgleecafaaDoorW.PrintMore
def TA (t : S26) : Prop := ∀ m, 2 ≤ m → ∃ c, toksF t.f1 m lx0 = ([⟨t.f0, t.f1, 0, t.f1.size, 0, c⟩], true)
theorem extract_whole (v : ByteArray) : v.extract 0 v.size = v := by
  apply ByteArray.ext
  simp [ByteArray.data_extract]
theorem toks_alone (s : ByteArray) : ∀ (n : Nat) (x : LSt), LGd s x → x.st = x.p → ∀ t ∈ (toksF s n x).1, TA t ∧ t.f1.size ≤ s.size
  | 0, _, _, _, t, ht => by simp [toksF] at ht
  | n + 1, x, h, hst, t, ht => by
    rw [toksF] at ht
    cases hc : scanF s (s.size + 1) x with
    | mk c y =>
      rw [hc] at ht
      cases c with
      | eof => simp at ht
      | bad => simp at ht
      | tok k =>
        have hg := scanF_good _ h (.tok k) y hc
        simp only [List.mem_cons] at ht
        rcases ht with rfl | ht
        · refine ⟨fun m hm => ?_, ?_⟩
          · have := tok_alone h hst k hc m hm
            refine ⟨((toksF (s.extract y.st.toNat y.p.toNat) m lx0).1.headD ⟨0, ⟨#[]⟩, 0, 0, 0, 0⟩).f5, ?_⟩
            show toksF (s.extract y.st.toNat y.p.toNat) m lx0 = _
            rw [this]
            simp only [tokD, List.headD_cons, Int.toNat_natCast]
            rw [show ((0 : Int)).toNat = 0 from rfl, extract_whole]
          · show (s.extract y.st.toNat y.p.toNat).size ≤ _
            rw [ByteArray.size_extract]
            omega
        · exact toks_alone s n _ hg.1.emit rfl t ht
theorem alone_loop (l : List S26) (hl : l.length ≤ 1000000) (hall : ∀ t ∈ l, TA t ∧ t.f1.size ≤ 100000) : Ev (fun k => laws_FnTokenAlone.l0 k l (l.length : Int) 0) true := by
  have key : ∀ (n i : Nat), i + n = l.length → Ev (fun k => laws_FnTokenAlone.l0 k l (l.length : Int) (i : Int)) true := by
    intro n
    induction n with
    | zero =>
      intro i hi
      refine Ev.now 1 (fun k => ?_)
      simp only [laws_FnTokenAlone.l0]
      rw [if_neg (by omega)]
    | succ n ih =>
      intro i hi
      have hlt : i < l.length := by omega
      have hrd : rd_T26 l (i : Int) = l[i] := by simp [rd_T26, List.getD_eq_getElem?_getD, List.getElem?_eq_getElem hlt]
      obtain ⟨hta, hsz⟩ := hall l[i] (List.getElem_mem hlt)
      obtain ⟨c, hc⟩ := hta (l[i].f1.size + 2) (by omega)
      have himp : impl_Tokens.f l[i].f1 = some ([⟨l[i].f0, l[i].f1, 0, l[i].f1.size, 0, c⟩], true) := by
        unfold impl_Tokens.f
        rw [if_pos hsz, hc]
      refine Ev.step (ih (i + 1) (by omega)) 1 (fun k => ?_)
      simp only [laws_FnTokenAlone.l0]
      rw [if_pos (by omega), if_pos (by omega), if_pos (by omega), hrd, himp, Option.bind_some, if_pos rfl, if_pos (by simp), if_pos (by simp), if_pos (by simp [rd_T26]), if_pos (by simp [rd_T26]), if_pos (by simp [rd_T26]), if_pos (by simp [rd_T26]), w64s i (by omega)]
  exact key l.length 0 (by omega)
theorem toks_len (s : ByteArray) : ∀ (n : Nat) (x : LSt), (toksF s n x).1.length ≤ n
  | 0, _ => Nat.le_refl _
  | n + 1, x => by
    unfold toksF
    split
    · exact Nat.zero_le _
    · exact Nat.zero_le _
    · exact Nat.succ_le_succ (toks_len s n _)
theorem laws_FnTokenAlone.pure : ∀ (a0 : ByteArray), a0.size ≤ 140737488351232 → ∃ k, laws_FnTokenAlone.f k a0 = some true := by
  intro a0 _
  apply Ev.has
  unfold laws_FnTokenAlone.f
  by_cases hbig : (a0.size : Int) > 2147483647
  · exact Ev.iteT hbig (Ev.const _)
  refine Ev.iteF hbig ?_
  refine Ev.bindc brace_is ?_
  refine Ev.iteT rfl ?_
  refine Ev.iteT rfl ?_
  refine Ev.iteT (by decide) ?_
  refine Ev.iteT rfl ?_
  refine Ev.iteT (by decide) ?_
  refine Ev.iteT rfl ?_
  refine Ev.iteT (by decide) ?_
  show Ev (fun k => laws_FnTokenAlone.j0 k a0 false) true
  by_cases h5 : (a0.size : Int) > 5000
  · refine Ev.now 1 (fun k => ?_)
    simp only [laws_FnTokenAlone.j0]
    rw [if_neg (by decide), if_pos h5]
  · have himp : impl_Tokens.f a0 = some (toksF a0 (a0.size + 2) lx0) := by unfold impl_Tokens.f; rw [if_pos (by omega)]
    have hg : LGd a0 lx0 := ⟨by show (0 : Int) ≤ _; omega, by decide, by decide, by decide, by decide, by decide, by decide, by decide, by omega⟩
    have hl := toks_len a0 (a0.size + 2) lx0
    have hall := toks_alone a0 (a0.size + 2) lx0 hg rfl
    refine Ev.step (G := fun k => if (toksF a0 (a0.size + 2) lx0).2 = true then laws_FnTokenAlone.l0 k (toksF a0 (a0.size + 2) lx0).1 ((toksF a0 (a0.size + 2) lx0).1.length : Int) 0 else some true) ?_ 1 (fun k => by simp only [laws_FnTokenAlone.j0]; rw [if_neg (by decide), if_neg h5, himp]; rfl)
    by_cases ht : (toksF a0 (a0.size + 2) lx0).2 = true
    · refine Ev.iteT ht ?_
      exact alone_loop _ (by omega) (fun t h => ⟨(hall t h).1, by have := (hall t h).2; omega⟩)
    · exact Ev.iteF ht (Ev.const _)
end Go.Proofs.YtlpcbmgleecafaaDoor.Q
