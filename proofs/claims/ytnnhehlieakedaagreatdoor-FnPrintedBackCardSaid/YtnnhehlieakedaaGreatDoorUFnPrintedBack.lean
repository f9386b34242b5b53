/- FnPrintedBack: matchers that are printed are read back as the same, for every list. -/
import Derived.Test.YtnnhehlieakedaaGreatDoorQlawsFnPrintedBack
import Derived.Test.YtnnhehlieakedaaGreatDoorUPrAll
set_option linter.unusedVariables false
set_option linter.unusedSimpArgs false
namespace Go.Proofs.YtnnhehlieakedaaGreatDoor.Q
open Go.RowKit Go.Lib Go.Proofs.YtnnhehlieakedaaGreatDoorW.PrintWords Go.Proofs.YtnnhehlieakedaaGreatDoorW.PrintLast Go.Proofs.YtnnhehlieakedaaGreatDoorW.PrintMore
theorem fits4_b (a : Int) (b c : ByteArray) : ∃ r, laws_zzFits4.f a b c = some r := by
  unfold laws_zzFits4.f
  repeat' split
  all_goals exact ⟨_, rfl⟩
theorem fits3_l0 (l : List S25) (hl : l.length ≤ 2147483647) : ∀ (n i : Nat), i + n = l.length → ∃ b, ∀ k, n + 1 ≤ k → laws_zzFits3.l0 k l (l.length : Int) (i : Int) = some b
  | 0, i, h => ⟨true, fun k hk => by
    obtain ⟨k, rfl⟩ : ∃ j, k = j + 1 := ⟨k - 1, by omega⟩
    rw [laws_zzFits3.l0, if_neg (by omega)]⟩
  | n + 1, i, h => by
    obtain ⟨b, hb⟩ := fits3_l0 l hl n (i + 1) (by omega)
    obtain ⟨r, hr⟩ := fits4_b (rd_T25 l (i : Int)).f0 (rd_T25 l (i : Int)).f1 (rd_T25 l (i : Int)).f2
    refine ⟨if r = true then b else false, fun k hk => ?_⟩
    obtain ⟨k, rfl⟩ : ∃ j, k = j + 1 := ⟨k - 1, by omega⟩
    rw [laws_zzFits3.l0, if_pos (by omega), if_pos (by omega), if_pos (by omega), hr, Option.bind_some, wrapQ _ (by omega)]
    cases r with
    | true => rw [if_pos rfl, if_pos rfl]; exact hb k (by omega)
    | false => rw [if_neg (by decide), if_neg (by decide)]
theorem pb_l0 (l : List S25) (ha : l.all plaB = true) (hn : l.length ≤ 1000) : ∀ (n i : Nat), i + n = l.length → ∀ k, n + 1005 ≤ k → laws_FnPrintedBack.l0 k l l (l.length : Int) (i : Int) = some true
  | 0, i, h, k, hk => by
    obtain ⟨k, rfl⟩ : ∃ j, k = j + 1 := ⟨k - 1, by omega⟩
    rw [laws_FnPrintedBack.l0, if_neg (by omega), prl_f ha hn, Option.bind_some, backl_f ha hn, Option.bind_some]
    rw [if_pos (show ((l, true) : List S25 × Bool).2 = true from rfl), eqm_f l (by omega) k (by omega), Option.bind_some]
  | n + 1, i, h, k, hk => by
    obtain ⟨k, rfl⟩ : ∃ j, k = j + 1 := ⟨k - 1, by omega⟩
    have hm : plaB (rd_T25 l (i : Int)) = true := by
      apply List.all_eq_true.1 ha
      unfold rd_T25
      rw [List.getD_eq_getElem?_getD, List.getElem?_eq_getElem (by omega)]
      exact List.getElem_mem _
    rw [laws_FnPrintedBack.l0, if_pos (by omega), if_pos (by omega), if_pos (by omega), pr1_f hm, Option.bind_some, back1_f hm, Option.bind_some]
    rw [if_pos (show ((rd_T25 l (i : Int)).f0, (rd_T25 l (i : Int)).f1, (rd_T25 l (i : Int)).f2, true).2.2.2 = true from rfl), if_neg (by simp), wrapQ _ (by omega)]
    exact pb_l0 l ha hn n (i + 1) (by omega) k (by omega)
theorem laws_FnPrintedBack.pure : ∀ (l0 : List S25), l0.length ≤ 9223372036854775807 → ∃ k, laws_FnPrintedBack.f k l0 = some true := by
  intro l hs
  refine ⟨l.length + 1010, ?_⟩
  unfold laws_FnPrintedBack.f laws_zzFits3.f
  by_cases h1 : (l.length : Int) > 2147483647
  · rw [if_pos h1, Option.bind_some, if_neg (by decide)]
  obtain ⟨b, hb⟩ := fits3_l0 l (by omega) l.length 0 (by omega)
  have hb2 := hb (l.length + 1010) (by omega)
  rw [if_neg h1, show ((0 : Int)) = ((0 : Nat) : Int) from rfl, hb2, Option.bind_some]
  cases b with
  | false => rw [if_neg (by decide)]
  | true =>
    rw [if_pos rfl, one_f, Option.bind_some, if_pos rfl, all_f l (by omega), Option.bind_some]
    cases ha : l.all plaB && decide ((l.length : Int) ≤ 1000) with
    | false => rw [if_neg (by decide)]
    | true =>
      rw [Bool.and_eq_true] at ha
      have hn := of_decide_eq_true ha.2
      rw [if_pos rfl]
      exact pb_l0 l ha.1 (by omega) l.length 0 (by omega) _ (by omega)
end Go.Proofs.YtnnhehlieakedaaGreatDoor.Q
