/- The names and the values of a set: the law FnNames over the functions that the program comes to, for every input. No condition. -/
import Derived.Test.YtikhlolhodgegaaUEqTexts
import Derived.Test.YtikhlolhodgegaaUFits
import Derived.Test.YtikhlolhodgegaaUPairs
import Derived.Test.YtikhlolhodgegaaQlawsFnNames
set_option linter.unusedVariables false
set_option linter.unusedSimpArgs false
namespace Go.Proofs.Ytikhlolhodgegaa.Q
open Go.RowKit Go.Proofs.YtikhlolhodgegaaW.PrintWords Go.Proofs.YtikhlolhodgegaaW.PrintLast Go.Proofs.YtikhlolhodgegaaW.PrintMore
theorem rdN_natSP (l : List S59) (n : Nat) (h : n < l.length) : rd_T59 l (n : Int) = l[n] := by simp [rd_T59, List.getD_eq_getElem?_getD, List.getElem?_eq_getElem h]
theorem specNames_is (l : List S59) (hl : l.length < 8796093022208) (k : Nat) (hk : l.length < k) : spec_PairNames.f k l = some (l.map (fun p => p.f0)) := by
  unfold spec_PairNames.f
  refine map_loop l (fun p => p.f0) (fun k X x => spec_PairNames.l0 k l X (l.length : Int) x) ?_ ?_ k hk
  · intro k X
    simp only [spec_PairNames.l0]
    rw [if_neg (by omega)]
  · intro k X n h hX
    simp only [spec_PairNames.l0]
    rw [if_pos (by omega), if_pos (by omega), if_pos (by omega), if_pos (by omega), rdN_natSP l n h, wrapN n (by omega)]
theorem specValues_is (l : List S59) (hl : l.length < 8796093022208) (k : Nat) (hk : l.length < k) : spec_PairValues.f k l = some (l.map (fun p => p.f1)) := by
  unfold spec_PairValues.f
  refine map_loop l (fun p => p.f1) (fun k X x => spec_PairValues.l0 k l X (l.length : Int) x) ?_ ?_ k hk
  · intro k X
    simp only [spec_PairValues.l0]
    rw [if_neg (by omega)]
  · intro k X n h hX
    simp only [spec_PairValues.l0]
    rw [if_pos (by omega), if_pos (by omega), if_pos (by omega), if_pos (by omega), rdN_natSP l n h, wrapN n (by omega)]
theorem shortOfN {l : List S26} (h : fitsPs l = true) : shortPairs l := by
  simp [fitsPs, fitsP] at h
  intro p hp
  have := h.2 p hp
  omega
theorem oneN : kvO [⟨⟨#[97]⟩, ⟨#[]⟩⟩] = [⟨⟨#[97]⟩, ⟨#[]⟩⟩] := by
  have e : setGo ([⟨⟨#[97]⟩, ⟨#[]⟩⟩].map conv) [] = [⟨⟨#[97]⟩, ⟨#[]⟩⟩] := by simp [setGo, setStep, insP, conv]
  unfold kvO
  rw [e]
  have h : isAN (⟨⟨#[97]⟩, ⟨#[]⟩⟩ : S59) = false := rfl
  simp [kvOrd, h, unconv]
theorem laws_FnNames.pure : ∀ (l0 : List S26), l0.length ≤ 9223372036854775807 → ∃ k, laws_FnNames.f k l0 = some true := by
  intro l hl
  refine ⟨l.length + 20, ?_⟩
  unfold laws_FnNames.f
  rw [fits1_is l _ (by omega)]
  simp only [Option.bind_some]
  cases hf : fitsPs l
  · rw [if_neg (by simp)]
  rw [if_pos rfl]
  simp only [Option.bind_some, laws_much.f]
  by_cases h1 : (l.length : Int) > 300
  · rw [if_pos (decide_eq_true h1)]
  rw [if_neg (by simpa using h1)]
  have hs := shortOfN hf
  have e1 : impl_SortedPairs.f l = some (kvO l) := if_pos ⟨by omega, hs⟩
  have e2 : impl_Names.f l = some ((kvO l).map (fun p => p.f0)) := if_pos ⟨by omega, hs⟩
  have e3 : impl_Values.f l = some ((kvO l).map (fun p => p.f1)) := if_pos ⟨by omega, hs⟩
  have e4 : impl_PairNames.f l = some (l.map (fun p => p.f0)) := if_pos (by omega)
  have e5 : impl_PairValues.f l = some (l.map (fun p => p.f1)) := if_pos (by omega)
  have e6 : impl_Names.f [⟨⟨#[97]⟩, ⟨#[]⟩⟩] = some ([⟨#[97]⟩] : List ByteArray) := (if_pos ⟨by simp, by intro p hp; rw [List.mem_singleton.1 hp]; decide⟩ : impl_Names.f _ = some ((kvO _).map (fun p => p.f0))).trans (by rw [oneN]; rfl)
  have hk := kvO_len l
  have n1 : ∀ m : List S26, (m.map conv).map (fun p => p.f0) = m.map (fun p => p.f0) := fun m => by rw [List.map_map]; rfl
  have n2 : ∀ m : List S26, (m.map conv).map (fun p => p.f1) = m.map (fun p => p.f1) := fun m => by rw [List.map_map]; rfl
  have q1 : ∀ (m : List S26) k, m.length ≤ 300 → m.length < k → spec_PairNames.f k (m.map conv) = some (m.map (fun p => p.f0)) := fun m k a b => by rw [specNames_is _ (by simp; omega) k (by simp; omega), n1]
  have q2 : ∀ (m : List S26) k, m.length ≤ 300 → m.length < k → spec_PairValues.f k (m.map conv) = some (m.map (fun p => p.f1)) := fun m k a b => by rw [specValues_is _ (by simp; omega) k (by simp; omega), n2]
  have hT : (True : Prop) := trivial
  rw [e1, e2, e3, e4, e5, e6]
  simp only [Option.bind_some]
  rw [pairs_is (kvO l) (by omega) _ (by omega), pairs_is l (by omega) _ (by omega)]
  simp only [Option.bind_some]
  rw [q1 (kvO l) _ (by omega) (by omega), q1 l _ (by omega) (by omega), q2 (kvO l) _ (by omega) (by omega), q2 l _ (by omega) (by omega)]
  simp only [Option.bind_some]
  rw [eqTexts_is _ _ rfl (by rw [List.length_map]; omega) _ (by rw [List.length_map]; omega), eqTexts_is _ _ rfl (by rw [List.length_map]; omega) _ (by rw [List.length_map]; omega), eqTexts_is _ _ rfl (by rw [List.length_map]; omega) _ (by rw [List.length_map]; omega), eqTexts_is _ _ rfl (by rw [List.length_map]; omega) _ (by rw [List.length_map]; omega)]
  rfl
end Go.Proofs.Ytikhlolhodgegaa.Q
