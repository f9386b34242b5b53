/- Matching sets of labels: what impl.MatchAll returns. No condition beyond the lengths named. -/
import Derived.Test.YtikhlolhodgegaaHSet1
import Derived.Test.YtikhlolhodgegaaHMatch
set_option linter.unusedVariables false
set_option linter.unusedSimpArgs false
namespace Go.Proofs.Ytikhlolhodgegaa.Q
open Go.RowKit Go.Proofs.YtikhlolhodgegaaW.PrintWords Go.Proofs.YtikhlolhodgegaaW.PrintLast Go.Proofs.YtikhlolhodgegaaW.PrintMore
open Go.Maps (Keyed string_keyed)
open Go.WideElems (Fit)
attribute [local go_sem] max2_int min2_int max_two min_two max_three min_three max_four min_four

def plainM (m : S52) : Prop := (m.f0 = 0 ∨ m.f0 = 1) ∧ m.f1.size ≤ 140737488355328
instance (m : S52) : Decidable (plainM m) := inferInstanceAs (Decidable (_ ∧ _))
def matchAllD (l : List S52) (D : DataW Unit) : Bool := l.all fun m => matchesV m (valD D m.f1)
theorem rd_mem30 (l : List S52) (x : Int) (h0 : 0 ≤ x) (h1 : x < (l.length : Int)) : rd_T52 l x ∈ l := by
  obtain ⟨n, rfl⟩ := Int.eq_ofNat_of_zero_le h0
  have e2 : rd_T52 l n = l[n] := by simp [rd_T52, List.getD_eq_getElem?_getD, List.getElem?_eq_getElem (show n < l.length by omega)]
  rw [e2]; exact List.getElem_mem _
theorem matchAllD_not {l : List S52} {D : DataW Unit} {m : S52} (hm : m ∈ l) (h : matchesV m (valD D m.f1) = false) : matchAllD l D = false := by
  cases hb : matchAllD l D
  · rfl
  · have := List.all_eq_true.1 hb m hm
    rw [h] at this; cases this
set_option maxRecDepth 100000 in
set_option maxHeartbeats 800000 in
theorem Matches_calls (A0 : Option Addr) (c0 : Nat) (l0 : List S52) (b n : Nat) (D : DataW Unit) (w : World) (hr0 : Kd.C (ptrK 138 k52) w A0 l0.length l0) (_hc0 : l0.length ≤ c0) (hlen : l0.length ≤ 10000000000) (hp : ∀ m ∈ l0, plainM m) (hown : OwnsSet w b n D) :
    Calls Try.prog 77 #[.slice A0 l0.length c0, .map (some b)] w fun e w' => e = .returned (.bool (matchAllD l0 D)) ∧ w = w' := by
  have HR0 := Aside0.mk hr0
  have HP := Aside0.mk hp
  have HO := Aside0.mk hown
  clear hr0 hp hown
  go_enter Try.func77, Try.ntmps77
  go_wp2
  go_loop [9] (fun v9 => ∃ x : Int, 0 ≤ x ∧ x ≤ (l0.length : Int) ∧ v9 = .int .i64 x ∧ Aside0 (∀ m ∈ l0.take x.toNat, matchesV m (valD D m.f1) = true)) (fun v9 => ((l0.length : Int) - intOf v9).toNat)
  case atStart => exact ⟨0, by omega, by omega, rfl, ⟨by simp⟩⟩
  case round =>
    obtain ⟨x, hx, hxl, rfl, HL⟩ := hrel
    by_cases hlt : x < (l0.length : Int)
    · obtain ⟨ad, g, c, rfl, hpc, hb, hk⟩ := at_ptr HR0.out z52 x hx hlt
      have hst := Aside0.mk (take_step52 l0 x hx hlt)
      have hmem := rd_mem30 l0 x hx hlt
      change k52.K w (rd_T52 l0 x) c at hk
      generalize rd_T52 l0 x = p at *
      obtain rfl := k52_open hk
      have hpp := HP.out p hmem
      have HM := Aside0.mk hmem
      have HT := Aside0.mk hpp.1
      have HG := Aside0.mk hb
      have y1 := (blk_cell hb 1).trans rfl
      have HK : Aside0 (keyOf Try.prog 105 (.string p.f1) = some (.string p.f1.data.toList)) := ⟨WideMaps.keyOf_string_mk Try.underlying105 (by have := hpp.2; unfold maxLen; omega)⟩
      have hp1 := eq_true hx
      have hq1 := eq_true hlt
      clear hk hpp hb hmem
      cases hmv : matchesV p (valD D p.f1)
      · have HF := Aside0.mk (matchAllD_not HM.out hmv)
        have HMV := Aside0.mk hmv
        clear hmv
        go_wp2_with (first | (at_lookup; refine lookup_str _ rfl _ _ 65 rfl 105 110 keyed67 Try.underlying65 Try.underlying110 (zero68 _) b n D rfl HO.out _ p.f1 rfl HK.out ?_; intro s hs hsl; have HSV := Aside0.mk hs; clear hs hsl) | (go_at_call 92; refine (matchesV_calls g p _ _ HG.out HT.out).mono ?_; rintro e w2 ⟨rfl, rfl⟩; rw [HSV.out, HMV.out]))
        go_ret
        exact ⟨by rw [HF.out]; rfl, rfl⟩
      · have HMV := Aside0.mk hmv
        clear hmv
        go_wp2_with (first | (at_lookup; refine lookup_str _ rfl _ _ 65 rfl 105 110 keyed67 Try.underlying65 Try.underlying110 (zero68 _) b n D rfl HO.out _ p.f1 rfl HK.out ?_; intro s hs hsl; have HSV := Aside0.mk hs; clear hs hsl) | (go_at_call 92; refine (matchesV_calls g p _ _ HG.out HT.out).mono ?_; rintro e w2 ⟨rfl, rfl⟩; rw [HSV.out, HMV.out]))
        go_round
        case rel => exact ⟨x + 1, by omega, by omega, rfl, ⟨by rw [hst.out]; intro m hm; rcases List.mem_append.1 hm with h | h; · exact HL.out m h
                                                               · rw [List.mem_singleton.1 h]; exact HMV.out⟩⟩
        case measure => simp [intOf]; omega
    · have hxe : x = (l0.length : Int) := by omega
      subst hxe
      have HF : Aside0 (matchAllD l0 D = true) := ⟨List.all_eq_true.2 (by simpa using HL.out)⟩
      go_wp2
      go_ret
      exact ⟨by rw [HF.out]; rfl, rfl⟩
def impl_MatchAll.f (l0 : List (S52)) (l1 : List (S26)) : Option (Bool) :=
  if l0.length ≤ 10000000000 ∧ l1.length ≤ 10000000000 ∧ shortPairs l1 ∧ (∀ m ∈ l0, plainM m) then some (matchAllD l0 (mset l1)) else none
set_option maxHeartbeats 400000 in
theorem impl_MatchAll.calls (A0 : Option Addr) (c0 : Nat) (l0 : List (S52)) (A1 : Option Addr) (c1 : Nat) (l1 : List (S26)) (r : Bool) (w : World) (hr0 : Kd.C k52 w A0 l0.length l0) (hc0 : l0.length ≤ c0) (hr1 : Kd.C k26 w A1 l1.length l1) (hc1 : l1.length ≤ c1) (h : impl_MatchAll.f l0 l1 = some r) :
    Calls Try.prog 47 #[.slice A0 l0.length c0, .slice A1 l1.length c1] w fun e w' => e = .returned (.bool r) ∧ Below w.heap.size w w' := by
  unfold impl_MatchAll.f at h
  split at h
  case isFalse => cases h
  rename_i hh
  obtain ⟨hlen, hlen1, hs, hp⟩ := hh
  obtain rfl := Option.some.inj h
  clear h
  go_enter Try.func47, Try.ntmps47
  go_wp2_with fail
  refine (inners_calls _ _ _ _ hr0 hc0 hlen).mono ?_
  rintro e w1 ⟨v, rfl, hv, hb⟩
  obtain ⟨A, c, rfl, hc, hC⟩ := Kd.R_reads hv
  have HD := Aside0.mk hC
  have HB := Aside0.mk hb
  have HR1 := Aside0.mk (Kd.C_below hr1 hb)
  clear hv hC hb hr0 hr1
  go_wp2_with fail
  refine (labelSet_calls _ _ _ _ HR1.out hc1 hlen1 hs).mono ?_
  rintro e w2 ⟨b, rfl, hbb, ho, hb2⟩
  have HO := Aside0.mk ho
  have HD2 := Aside0.mk (Kd.C_below HD.out hb2)
  have HB2 := Aside0.mk (below_step HB.out hb2)
  clear hbb ho hb2 HB HD HR1
  go_wp2_with fail
  refine (Matches_calls _ _ _ _ _ _ _ HD2.out hc hlen hp HO.out).mono ?_
  rintro e w3 ⟨rfl, rfl⟩
  go_wp2
  go_ret
  exact ⟨rfl, HB2.out⟩
end Go.Proofs.Ytikhlolhodgegaa.Q
