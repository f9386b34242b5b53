/- The law FnPairsSet as a function of its argument, and its contract. No condition. -/
import Derived.Test.YtikhlolhodgegaaHPairsSet
import Derived.Test.YtikhlolhodgegaaUBase
set_option linter.unusedVariables false
set_option linter.unusedSimpArgs false
namespace Go.Proofs.Ytikhlolhodgegaa.Q
open Go.RowKit Go.Proofs.YtikhlolhodgegaaW.PrintWords Go.Proofs.YtikhlolhodgegaaW.PrintLast Go.Proofs.YtikhlolhodgegaaW.PrintMore
attribute [local go_sem] max2_int min2_int max_two min_two max_three min_three max_four min_four
open Classical in
/-- True where the sizes end it, or where its pieces say so. -/
noncomputable def laws_FnPairsSet.f (l0 : List S26) : Option Bool := if (fitsPs l0 = false ∨ 300 < l0.length) ∧ (∃ s1, impl_SortedPairs.f oneAB = some s1 ∧ s1.length = 1) then some true else if ∃ K s s1 cl cs, PSok K l0 s s1 cl cs then some true else none
set_option maxRecDepth 100000 in
set_option maxHeartbeats 4000000 in
theorem pairsSet_big (A0 : Option Addr) (c0 : Nat) (l s1 : List S26) (w : World) (hr0 : Kd.C k26 w A0 l.length l) (hc0 : l.length ≤ c0) (h : fitsPs l = false ∨ 300 < l.length) (hf : impl_SortedPairs.f oneAB = some s1) (hl1 : s1.length = 1) :
    Calls Try.prog 7 #[.slice A0 l.length c0] w fun e w' => e = .returned (.bool true) ∧ Below w.heap.size w w' := by
  have HR0 := Aside0.mk hr0
  have HF := Aside0.mk hf
  have hu0 := Try.underlying26
  have hfit := fits1_is l (l.length + 1) (by omega)
  cases hp : fitsPs l
  · rw [hp] at hfit
    have HX := Aside0.mk hfit
    clear hfit hr0 hf
    go_enter Try.func7, Try.ntmps7
    go_wp2_with fail
    refine (laws_zzFits1.calls (l.length + 1) A0 c0 l false _ HR0.out hc0 HX.out).mono ?_
    rintro e w1 ⟨rfl, hb⟩
    have HB1 := Aside0.mk hb
    clear hb
    go_wp2
    go_ret
    exact ⟨rfl, HB1.out⟩
  · have hbig : 300 < l.length := by rcases h with h | h; rw [hp] at h; cases h; exact h
    rw [hp] at hfit
    have HX := Aside0.mk hfit
    have HM : Aside0 (laws_much.f l = some true) := ⟨by unfold laws_much.f; rw [decide_eq_true (by omega)]⟩
    clear hfit hr0 hf
    go_enter Try.func7, Try.ntmps7
    go_wp2_with fail
    refine (laws_zzFits1.calls (l.length + 1) A0 c0 l true _ HR0.out hc0 HX.out).mono ?_
    rintro e w1 ⟨rfl, hb⟩
    have HB1 := Aside0.mk hb
    clear hb
    go_wp2_with fail
    refine (impl_SortedPairs.calls _ 1 oneAB s1 _ (oneAB_row w1) (Nat.le_refl _) HF.out).mono ?_
    rintro e w2 ⟨v2, rfl, hR2, hb⟩
    obtain ⟨A2, c2, rfl, _, _⟩ := Kd.R_reads hR2
    have HB2 := Aside0.mk (below_step (below_alloc HB1.out _) hb)
    rw [hl1]
    clear hb hR2 HB1
    go_wp2_with fail
    refine (laws_much.calls A0 c0 l true _ (Kd.C_below HR0.out HB2.out) hc0 HM.out).mono ?_
    rintro e w3 ⟨rfl, ⟨d3, rfl⟩⟩
    go_wp2
    go_ret
    exact ⟨rfl, pw_below_drewN HB2.out _⟩
theorem laws_FnPairsSet.calls (A0 : Option Addr) (c0 : Nat) (l0 : List S26) (r : Bool) (w : World) (hr0 : Kd.C k26 w A0 l0.length l0) (hc0 : l0.length ≤ c0) (h : laws_FnPairsSet.f l0 = some r) :
    Calls Try.prog 7 #[.slice A0 l0.length c0] w fun e w' => e = .returned (.bool r) ∧ Below w.heap.size w w' := by
  unfold laws_FnPairsSet.f at h
  split at h
  · rename_i hb
    obtain rfl := Option.some.inj h
    obtain ⟨hb, s1, hf, hl⟩ := hb
    exact pairsSet_big A0 c0 l0 s1 w hr0 hc0 hb hf hl
  · split at h
    · rename_i hp
      obtain rfl := Option.some.inj h
      obtain ⟨K, s, s1, cl, cs, hp⟩ := hp
      exact pairsSet_calls A0 c0 l0 s s1 cl cs K w hr0 hc0 hp
    · cases h
end Go.Proofs.Ytikhlolhodgegaa.Q
