/- The order of alerts: the law FnAlertOrder over the functions that the program comes to, for every input. No condition. -/
import Derived.Test.YtikhlolhodgegaaUBefore
import Derived.Test.YtikhlolhodgegaaQlawsFnAlertOrder
set_option linter.unusedVariables false
set_option linter.unusedSimpArgs false
namespace Go.Proofs.Ytikhlolhodgegaa.Q
open Go.RowKit Go.Proofs.YtikhlolhodgegaaW.PrintWords Go.Proofs.YtikhlolhodgegaaW.PrintLast Go.Proofs.YtikhlolhodgegaaW.PrintMore
theorem shortOfA {l : List S26} (h : fitsPs l = true) : shortPairs l := by
  simp [fitsPs, fitsP] at h
  intro p hp
  have := h.2 p hp
  omega
theorem find_last (l : List S59) (n : List UInt8) : (setGo l []).find? (atN n) = lastP l n := by
  cases hl : lastP l n with
  | some q =>
    have hn := lastP_nm hl
    have hq : q ∈ setGo l [] := (mem_setGo_iff l q).2 (by rw [hn]; exact hl)
    cases hf : (setGo l []).find? (atN n) with
    | none =>
      have := List.find?_eq_none.1 hf q hq
      simp [atN, hn] at this
    | some q' =>
      have hq' := List.mem_of_find?_eq_some hf
      have hn' : nm q' = n := by simpa [atN] using List.find?_some hf
      rw [sorted_inj (setGo_sorted l) hq' hq (by rw [hn', hn])]
  | none =>
    cases hf : (setGo l []).find? (atN n) with
    | none => rfl
    | some q' =>
      have hq' := (mem_setGo_iff l q').1 (List.mem_of_find?_eq_some hf)
      have hn' : nm q' = n := by simpa [atN] using List.find?_some hf
      rw [hn', hl] at hq'
      cases hq'
theorem has_last (l : List S59) (n : List UInt8) : (l.find? (atN n)).isSome = (lastP l n).isSome := by
  refine Bool.eq_iff_iff.2 ?_
  unfold lastP
  rw [List.find?_isSome, List.find?_isSome]
  constructor
  · rintro ⟨x, hx, h⟩
    exact ⟨x, List.mem_reverse.2 hx, h⟩
  · rintro ⟨x, hx, h⟩
    exact ⟨x, List.mem_reverse.1 hx, h⟩
theorem keyV_last (l : List S59) (s : ByteArray) : keyV s (setGo l []) = (lastP l s.data.toList).map (fun q => q.f1.toList) := by unfold keyV; rw [find_last]
theorem cmpA_none {X Y : List S59} (h : cmpA X Y = none) : X = Y := by
  unfold cmpA lex at h
  dsimp only at h
  split at h
  · cases h
  · split at h
    · cases h
    · exact cmpSet_none h
theorem job_dec (X Y : List S59) (p q : S59) (hx : keyV jobB X = some p.f1.toList) (hy : keyV jobB Y = some q.f1.toList) (hne : ¬ p.f1.toList = q.f1.toList) : alertP X Y = Op.bytesLess p.f1.toList q.f1.toList := by
  unfold alertP cmpA lex
  dsimp only
  rw [hx, hy]
  have e : cmpO (some p.f1.toList) (some q.f1.toList) = some (decide (p.f1.toList < q.f1.toList)) := by show cmpB _ _ = _; unfold cmpB; rw [if_neg hne]
  rw [e, bless_eqS]
  rfl
theorem job_first : alertP (setGo (([⟨⟨#[106, 111, 98]⟩, ⟨#[97]⟩⟩] : List S26).map conv) []) (setGo (([⟨⟨#[106, 111, 98]⟩, ⟨#[98]⟩⟩] : List S26).map conv) []) = true := by
  have k1 : keyV jobB (setGo (([⟨⟨#[106, 111, 98]⟩, ⟨#[97]⟩⟩] : List S26).map conv) []) = some (⟨#[97]⟩ : ByteArray).toList := by rw [keyV_last]; rfl
  have k2 : keyV jobB (setGo (([⟨⟨#[106, 111, 98]⟩, ⟨#[98]⟩⟩] : List S26).map conv) []) = some (⟨#[98]⟩ : ByteArray).toList := by rw [keyV_last]; rfl
  have := job_dec _ _ (⟨⟨#[]⟩, ⟨#[97]⟩⟩ : S59) (⟨⟨#[]⟩, ⟨#[98]⟩⟩ : S59) k1 k2 (by rw [toL, toL]; decide)
  rw [this, toL, toL]
  decide
theorem laws_FnAlertOrder.pure : ∀ (l0 : List S26) (l1 : List S26) (l2 : List S26), l0.length ≤ 9223372036854775807 → l1.length ≤ 9223372036854775807 → l2.length ≤ 9223372036854775807 → ∃ k, laws_FnAlertOrder.f k l0 l1 l2 = some true := by
  intro a b c ha hb hc
  refine ⟨a.length + b.length + c.length + 20, ?_⟩
  have jt : ∀ k, laws_FnAlertOrder.j0 (k + 1) a b c true = some true := fun k => by simp only [laws_FnAlertOrder.j0, if_true]
  have kt : ∀ k, laws_FnAlertOrder.j1 (k + 1) a b c true = some true := fun k => by simp only [laws_FnAlertOrder.j1, if_true]
  unfold laws_FnAlertOrder.f
  rw [fits1_is a _ (by omega)]
  simp only [Option.bind_some]
  cases hf : fitsPs a
  · rw [if_neg (by simp)]; exact jt _
  rw [if_pos rfl, fits1_is b _ (by omega)]
  simp only [Option.bind_some]
  cases hg : fitsPs b
  · rw [if_neg (by simp)]; exact jt _
  rw [if_pos rfl, fits1_is c _ (by omega)]
  simp only [Option.bind_some]
  cases hh : fitsPs c
  · rw [Bool.not_false]; exact jt _
  have e0 : impl_AlertBefore.f ([⟨⟨#[106, 111, 98]⟩, ⟨#[97]⟩⟩] : List S26) [⟨⟨#[106, 111, 98]⟩, ⟨#[98]⟩⟩] = some true := (if_pos ⟨by simp, by simp, (by intro p hp; rw [List.mem_singleton.1 hp]; decide), (by intro p hp; rw [List.mem_singleton.1 hp]; decide)⟩ : impl_AlertBefore.f _ _ = some (alertP _ _)).trans (congrArg some job_first)
  rw [Bool.not_true, laws_FnAlertOrder.j0, if_neg (by simp), e0]
  simp only [Option.bind_some, laws_much.f]
  rw [if_pos trivial]
  by_cases h1 : (a.length : Int) > 300
  · rw [if_pos (decide_eq_true h1)]; exact kt _
  rw [if_neg (by simpa using h1)]
  by_cases h2 : (b.length : Int) > 300
  · rw [if_pos (decide_eq_true h2)]; exact kt _
  rw [if_neg (by simpa using h2)]
  by_cases h3 : (c.length : Int) > 300
  · rw [decide_eq_true h3]; exact kt _
  rw [decide_eq_false h3, laws_FnAlertOrder.j1, if_neg (by simp)]
  have sa := shortOfA hf
  have sb := shortOfA hg
  have sc := shortOfA hh
  have eAB : impl_AlertBefore.f a b = some (alertP (setGo (a.map conv) []) (setGo (b.map conv) [])) := if_pos ⟨by omega, by omega, sa, sb⟩
  have eBA : impl_AlertBefore.f b a = some (alertP (setGo (b.map conv) []) (setGo (a.map conv) [])) := if_pos ⟨by omega, by omega, sb, sa⟩
  have eBC : impl_AlertBefore.f b c = some (alertP (setGo (b.map conv) []) (setGo (c.map conv) [])) := if_pos ⟨by omega, by omega, sb, sc⟩
  have eAC : impl_AlertBefore.f a c = some (alertP (setGo (a.map conv) []) (setGo (c.map conv) [])) := if_pos ⟨by omega, by omega, sa, sc⟩
  have eAA : impl_AlertBefore.f a a = some (alertP (setGo (a.map conv) []) (setGo (a.map conv) [])) := if_pos ⟨by omega, by omega, sa, sa⟩
  have eQ : impl_SetEqual.f a b = some (decide (setGo (a.map conv) [] = setGo (b.map conv) [])) := if_pos ⟨by omega, by omega, sa, sb⟩
  have la : (a.map conv).length = a.length := List.length_map _
  have lb : (b.map conv).length = b.length := List.length_map _
  have key : ∀ k, laws_FnAlertOrder.j2 (k + 1) a b (alertP (setGo (a.map conv) []) (setGo (b.map conv) [])) (alertP (setGo (b.map conv) []) (setGo (a.map conv) [])) (alertP (setGo (b.map conv) []) (setGo (c.map conv) [])) (alertP (setGo (a.map conv) []) (setGo (c.map conv) [])) false = some true := fun k => by
    rw [laws_FnAlertOrder.j2, if_neg (by simp), eAA, eQ]
    simp only [Option.bind_some]
    generalize setGo (a.map conv) [] = A at *
    generalize setGo (b.map conv) [] = B at *
    generalize setGo (c.map conv) [] = C at *
    have rAA : alertP A A = false := by unfold alertP; rw [Cmp.alert.refl]; rfl
    rw [rAA, if_neg (by simp)]
    have hflip := Cmp.alert.flip A B
    cases hAB : cmpA A B with
    | none =>
      have eq := cmpA_none hAB
      have v1 : alertP A B = false := by unfold alertP; rw [hAB]; rfl
      have v2 : alertP B A = false := by unfold alertP; rw [hflip, hAB]; rfl
      rw [v1, v2, if_neg (by simp), decide_eq_true eq]
      rfl
    | some r =>
      have ne : ¬ A = B := fun e => by rw [e, Cmp.alert.refl] at hAB; cases hAB
      rw [decide_eq_false ne]
      cases r with
      | true =>
        have v1 : alertP A B = true := by unfold alertP; rw [hAB]; rfl
        have v2 : alertP B A = false := by unfold alertP; rw [hflip, hAB]; rfl
        rw [v1, v2, if_pos rfl, if_neg (by simp), if_pos (by rfl)]
        cases v3 : alertP B C with
        | false => rfl
        | true =>
          have hBC : cmpA B C = some true := by
            unfold alertP at v3
            cases h : cmpA B C with
            | none => rw [h] at v3; cases v3
            | some r => rw [h] at v3; exact congrArg some v3
          have v4 : alertP A C = true := by unfold alertP; rw [Cmp.alert.trans A B C hAB hBC]; rfl
          rw [v4]
          rfl
      | false =>
        have v1 : alertP A B = false := by unfold alertP; rw [hAB]; rfl
        have v2 : alertP B A = true := by unfold alertP; rw [hflip, hAB]; rfl
        rw [v1, v2, if_neg (by simp)]
        rfl
  rw [eAB, eBA, eBC, eAC]
  simp only [Option.bind_some]
  rw [pairs_is a (by omega) _ (by omega), pairs_is b (by omega) _ (by omega)]
  simp only [Option.bind_some]
  rw [specValue_is (a.map conv) (by omega) _ _ (by omega), specValue_is (b.map conv) (by omega) _ _ (by omega), specHas_is (a.map conv) (by omega) _ _ (by omega), specHas_is (b.map conv) (by omega) _ _ (by omega)]
  simp only [Option.bind_some]
  rw [has_last, has_last, val_last, val_last]
  cases ja : lastP (a.map conv) (⟨#[106, 111, 98]⟩ : ByteArray).data.toList with
  | none => exact key (a.length + b.length + c.length + 17)
  | some p =>
    rw [if_pos (by rfl)]
    cases jb : lastP (b.map conv) (⟨#[106, 111, 98]⟩ : ByteArray).data.toList with
    | none => exact key (a.length + b.length + c.length + 17)
    | some q =>
      rw [if_pos (by rfl)]
      show (if p.f1.toList = q.f1.toList then _ else _) = _
      by_cases hv : p.f1.toList = q.f1.toList
      · rw [if_pos hv]; exact key (a.length + b.length + c.length + 17)
      · rw [if_neg hv]
        have kx : keyV jobB (setGo (a.map conv) []) = some p.f1.toList := by rw [keyV_last]; show Option.map _ (lastP (a.map conv) _) = _; rw [show jobB.data.toList = (⟨#[106, 111, 98]⟩ : ByteArray).data.toList from rfl, ja]; rfl
        have ky : keyV jobB (setGo (b.map conv) []) = some q.f1.toList := by rw [keyV_last]; show Option.map _ (lastP (b.map conv) _) = _; rw [show jobB.data.toList = (⟨#[106, 111, 98]⟩ : ByteArray).data.toList from rfl, jb]; rfl
        have hd := job_dec _ _ p q kx ky hv
        have hne : (alertP (setGo (a.map conv) []) (setGo (b.map conv) []) != Op.bytesLess ((Option.map (fun q : S59 => q.f1) (some p)).getD (⟨#[]⟩ : ByteArray)).toList ((Option.map (fun q : S59 => q.f1) (some q)).getD (⟨#[]⟩ : ByteArray)).toList) = false := by
          show (alertP (setGo (a.map conv) []) (setGo (b.map conv) []) != Op.bytesLess p.f1.toList q.f1.toList) = false
          rw [hd]
          simp
        rw [hne]
        exact key (a.length + b.length + c.length + 17)
end Go.Proofs.Ytikhlolhodgegaa.Q
