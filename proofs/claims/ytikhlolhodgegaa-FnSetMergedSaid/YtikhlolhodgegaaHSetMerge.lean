/- Merging sets of labels: what impl.SetMerge returns. No condition beyond the lengths named. -/
import Derived.Test.YtikhlolhodgegaaULastKeys
set_option linter.unusedVariables false
set_option linter.unusedSimpArgs false
namespace Go.Proofs.Ytikhlolhodgegaa.Q
open Go.RowKit Go.Proofs.YtikhlolhodgegaaW.PrintWords Go.Proofs.YtikhlolhodgegaaW.PrintLast Go.Proofs.YtikhlolhodgegaaW.PrintMore
attribute [local go_sem] max2_int min2_int max_two min_two max_three min_three max_four min_four
theorem size_mset (l : List S26) : Maps.size (mset l) ≤ l.length := by
  rw [size_is]
  have := Sset_len (l.map conv) []
  simpa using this
theorem len_perm {l : List S26} {ks : List (List UInt8)} (h : ks.Perm (strKeys (mset l))) : ks.length ≤ l.length := by
  rw [h.length_eq, keys_is, List.length_map]
  have := Sset_len (l.map conv) []
  simpa using this
def mergedL (a b : List S26) : List S26 := (setGo ((a ++ b).map conv) []).map unconv
def impl_SetMerge.f (l0 : List (S26)) (l1 : List (S26)) : Option ((List (S26))) := if l0.length ≤ 300000000 ∧ l1.length ≤ 300000000 ∧ shortPairs l0 ∧ shortPairs l1 then some (mergedL l0 l1) else none
set_option maxRecDepth 100000 in
set_option maxHeartbeats 800000 in
theorem impl_SetMerge.calls (A0 : Option Addr) (c0 : Nat) (l0 : List (S26)) (A1 : Option Addr) (c1 : Nat) (l1 : List (S26)) (r : List (S26)) (w : World) (hr0 : Kd.C k26 w A0 l0.length l0) (hc0 : l0.length ≤ c0) (hr1 : Kd.C k26 w A1 l1.length l1) (hc1 : l1.length ≤ c1) (h : impl_SetMerge.f l0 l1 = some r) :
    Calls Try.prog 15 #[.slice A0 l0.length c0, .slice A1 l1.length c1] w fun e w' => ∃ v0_ : Value, e = .returned (v0_) ∧ Kd.R k26 26 w' w.heap.size (fun _ => True) v0_ r ∧ Below w.heap.size w w' := by
  unfold impl_SetMerge.f at h
  split at h
  case isFalse => cases h
  rename_i hh
  obtain ⟨hl0, hl1, hs0, hs1⟩ := hh
  obtain rfl := Option.some.inj h
  clear h
  have HR0 := Aside0.mk hr0
  have HR1 := Aside0.mk hr1
  have HS0 := Aside0.mk hs0
  have HS1 := Aside0.mk hs1
  clear hr0 hr1 hs0 hs1
  go_enter Try.func15, Try.ntmps15
  go_wp2_with fail
  refine (labelSet_calls _ _ _ _ HR0.out hc0 (by omega) HS0.out).mono ?_
  rintro e w1 ⟨b1, rfl, hb1, ho1, hB1⟩
  have HO1 := Aside0.mk ho1
  have HB1 := Aside0.mk hB1
  have HR1' := Aside0.mk (Kd.C_below HR1.out hB1)
  clear hb1 ho1 hB1
  go_wp2_with fail
  refine (labelSet_calls _ _ _ _ HR1'.out hc1 (by omega) HS1.out).mono ?_
  rintro e w2 ⟨b2, rfl, hb2, ho2, hB2⟩
  have HO2 := Aside0.mk ho2
  have HO1' := Aside0.mk (own_R_below HO1.out hB2)
  have HB2 := Aside0.mk (below_step HB1.out hB2)
  clear hb2 ho2 hB2
  go_wp2_with fail
  refine (merge_calls _ _ _ _ _ _ _ HO1'.out HO2.out (by have := size_mset l0; omega) (by have := size_mset l1; omega)).mono ?_
  rintro e w3 ⟨b, rfl, hb, hB3, k1, k2, n, hk1, hk2, ho3⟩
  have HO3 := Aside0.mk ho3
  have HB3 := Aside0.mk (below_step HB2.out hB3)
  have HK := Aside0.mk (merged_is l0 l1 k1 k2 hk1 hk2)
  have HZ : Aside0 (Maps.size (mset (k1.map (pairAt (mset l0)) ++ k2.map (pairAt (mset l1)))) ≤ 1000000000) := ⟨by
    have a := size_mset (k1.map (pairAt (mset l0)) ++ k2.map (pairAt (mset l1)))
    have b := len_perm hk1
    have c := len_perm hk2
    simp at a
    omega⟩
  clear hb hB3 hk1 hk2 ho3
  go_wp2_with fail
  refine (sortedSet_calls _ _ _ _ HO3.out HZ.out).mono ?_
  rintro e w4 ⟨v, rfl, ks, hks, hR, hB4⟩
  have HR := Aside0.mk hR
  have HB4 := Aside0.mk (below_step HB3.out hB4)
  have HE := Aside0.mk ((sortedSet_is _ ks hks).trans (congrArg (List.map unconv) HK.out))
  have HW := Aside0.mk HB3.out.size
  clear hks hR hB4
  go_wp2
  go_ret
  exact ⟨_, rfl, by have := HR.out; rw [HE.out] at this; exact Kd.R_lower this HW.out, HB4.out⟩
end Go.Proofs.Ytikhlolhodgegaa.Q
