/- Matching sets of labels by one of several lists of matchers: what impl.MatchAny returns. No condition beyond the lengths named. -/
import Derived.Test.YtbcijcmmpbkkbaaHMatchAll
namespace Go.Proofs.Ytbcijcmmpbkkbaa.Q
open Go.RowKit Go.Proofs.YtbcijcmmpbkkbaaW.PrintWords Go.Proofs.YtbcijcmmpbkkbaaW.PrintLast Go.Proofs.YtbcijcmmpbkkbaaW.PrintMore
attribute [local go_sem] max2_int min2_int max_two min_two max_three min_three max_four min_four
/-- A pointer to a variable that holds a list of matchers. -/
abbrev kMs : Kd (List S30) := Kd.slice 71 (ptrK 108 k30)
theorem info101 : (Try.prog.info? 101).map (fun i => (i.zero, i.size, i.bytes)) = some (some (.pointer none), 1, 8) := by kernel_rfl
theorem take_stepL6 (l : List (List S30)) (x : Int) (h0 : 0 ≤ x) (h1 : x < (l.length : Int)) : l.take (x + 1).toNat = l.take x.toNat ++ [rd_L6 l x] ∧ rd_L6 l x ∈ l := by
  obtain ⟨n, rfl⟩ := Int.eq_ofNat_of_zero_le h0
  have e : ((n : Int) + 1).toNat = n + 1 := by omega
  rw [e, Int.toNat_natCast, List.take_succ_eq_append_getElem (by omega)]
  have e2 : rd_L6 l n = l[n] := by simp [rd_L6, List.getD_eq_getElem?_getD, List.getElem?_eq_getElem (show n < l.length by omega)]
  rw [e2]
  exact ⟨rfl, List.getElem_mem _⟩
def matchAnyD (l : List (List S30)) (D : DataW Unit) : Bool := l.any fun x => matchAllD x D
set_option maxRecDepth 100000 in
set_option maxHeartbeats 800000 in
theorem SetMatches_calls (A0 : Option Addr) (c0 : Nat) (l0 : List (List S30)) (b n : Nat) (D : DataW Unit) (w : World) (hr0 : Kd.C (ptrK 85 kMs) w A0 l0.length l0) (_hc0 : l0.length ≤ c0) (hlen : l0.length ≤ 10000000000) (hp : ∀ x ∈ l0, x.length ≤ 10000000000 ∧ ∀ m ∈ x, plainM m) (hown : OwnsSet w b n D) :
    Calls Try.prog 61 #[.slice A0 l0.length c0, .map (some b)] w fun e w' => e = .returned (.bool (matchAnyD l0 D)) ∧ w = w' := by
  have HR0 := Aside0.mk hr0
  have HP := Aside0.mk hp
  have HO := Aside0.mk hown
  clear hr0 hp hown
  go_enter Try.func61, Try.ntmps61
  go_wp2
  go_loop [9] (fun v9 => ∃ x : Int, 0 ≤ x ∧ x ≤ (l0.length : Int) ∧ v9 = .int .i64 x ∧ Aside0 (∀ m ∈ l0.take x.toNat, matchAllD m D = false)) (fun v9 => ((l0.length : Int) - intOf v9).toNat)
  case atStart => exact ⟨0, by omega, by omega, rfl, ⟨by simp⟩⟩
  case round =>
    obtain ⟨x, hx, hxl, rfl, HL⟩ := hrel
    by_cases hlt : x < (l0.length : Int)
    · obtain ⟨ad, g, c, rfl, hpc, hb, hk⟩ := at_ptr HR0.out [] x hx hlt
      have hst0 := take_stepL6 l0 x hx hlt
      change kMs.K w (rd_L6 l0 x) c at hk
      generalize rd_L6 l0 x = p at *
      have hst := Aside0.mk hst0.1
      have HM := Aside0.mk hst0.2
      clear hst0
      obtain ⟨A, cc, rfl, hcc, hC⟩ := hk
      have HC := Aside0.mk hC
      have HPP := Aside0.mk (HP.out p HM.out)
      have y0 := (blk_cell hb 0).trans rfl
      have hp1 := eq_true hx
      have hq1 := eq_true hlt
      clear hC hb
      cases hmv : matchAllD p D
      · have HMV := Aside0.mk hmv
        clear hmv
        go_wp2_with (go_at_call 60; refine (Matches_calls _ _ _ _ _ _ _ HC.out hcc HPP.out.1 HPP.out.2 HO.out).mono ?_; rintro e w2 ⟨rfl, rfl⟩; rw [HMV.out])
        go_round
        case rel => exact ⟨x + 1, by omega, by omega, rfl, ⟨by rw [hst.out]; intro m hm; rcases List.mem_append.1 hm with h | h; · exact HL.out m h
                                                               · rw [List.mem_singleton.1 h]; exact HMV.out⟩⟩
        case measure => simp [intOf]; omega
      · have HMV := Aside0.mk hmv
        have HF : Aside0 (matchAnyD l0 D = true) := ⟨List.any_eq_true.2 ⟨p, HM.out, hmv⟩⟩
        clear hmv
        go_wp2_with (go_at_call 60; refine (Matches_calls _ _ _ _ _ _ _ HC.out hcc HPP.out.1 HPP.out.2 HO.out).mono ?_; rintro e w2 ⟨rfl, rfl⟩; rw [HMV.out])
        go_ret
        exact ⟨by rw [HF.out]; rfl, rfl⟩
    · have hxe : x = (l0.length : Int) := by omega
      subst hxe
      have HF : Aside0 (matchAnyD l0 D = false) := ⟨by
        cases hb : matchAnyD l0 D
        · rfl
        · obtain ⟨m, hm, h1⟩ := List.any_eq_true.1 hb
          rw [HL.out m (by simpa using hm)] at h1
          cases h1⟩
      go_wp2
      go_ret
      exact ⟨by rw [HF.out]; rfl, rfl⟩
def impl_MatchAny.f (l0 : List (List (S30))) (l1 : List (S26)) : Option (Bool) :=
  if l0.length ≤ 10000000000 ∧ l1.length ≤ 10000000000 ∧ shortPairs l1 ∧ (∀ x ∈ l0, x.length ≤ 10000000000 ∧ ∀ m ∈ x, plainM m) then some (matchAnyD l0 (mset l1)) else none
set_option maxRecDepth 100000 in
set_option maxHeartbeats 800000 in
theorem impl_MatchAny.calls (A0 : Option Addr) (c0 : Nat) (l0 : List (List (S30))) (A1 : Option Addr) (c1 : Nat) (l1 : List (S26)) (r : Bool) (w : World) (hr0 : Kd.C (Kd.slice 30 k30) w A0 l0.length l0) (hc0 : l0.length ≤ c0) (hr1 : Kd.C k26 w A1 l1.length l1) (hc1 : l1.length ≤ c1) (h : impl_MatchAny.f l0 l1 = some r) :
    Calls Try.prog 39 #[.slice A0 l0.length c0, .slice A1 l1.length c1] w fun e w' => e = .returned (.bool r) ∧ Below w.heap.size w w' := by
  unfold impl_MatchAny.f at h
  split at h
  case isFalse => cases h
  rename_i hh
  obtain ⟨hlen, hlen1, hs, hp⟩ := hh
  obtain rfl := Option.some.inj h
  clear h
  have HR0 := Aside0.mk hr0
  have HR1 := Aside0.mk hr1
  have HP := Aside0.mk hp
  have HS := Aside0.mk hs
  clear hr0 hr1 hp hs
  have HB := Aside0.mk (Below.refl w.heap.size w)
  have hu85 := Try.underlying85
  go_enter Try.func39, Try.ntmps39
  go_wp2
  go_loopw [5, 11] (fun v5 v8 w' => ∃ x : Int, 0 ≤ x ∧ x ≤ (l0.length : Int) ∧ v8 = .int .i64 x ∧ Aside0 (Kd.R (ptrK 85 kMs) 101 w' w.heap.size (fun _ => True) v5 (l0.take x.toNat)) ∧ Aside0 (Below w.heap.size w w')) (fun _ v8 _ => ((l0.length : Int) - intOf v8).toNat)
  case atStart => exact ⟨0, by omega, by omega, rfl, ⟨by simpa using Kd.R_nil _ _ _ _ _⟩, HB⟩
  case round =>
    obtain ⟨x, hx, hxl, rfl, HO, HB⟩ := hrel
    by_cases hlt : x < (l0.length : Int)
    · obtain ⟨ad, A0, c0', e1, hx0, hcl, hC⟩ := at_L6 HR0.out x hx hlt
      cases e1
      have hst0 := take_stepL6 l0 x hx hlt
      replace hx0 := (HB.out.cell (World.block_lt_of_cell? w _ hx0)).trans hx0
      generalize rd_L6 l0 x = p at *
      have hst := Aside0.mk hst0.1
      have HPP := Aside0.mk (HP.out p hst0.2)
      have HC := Aside0.mk (Kd.C_below hC (Below.mono (B := w.heap.size) HB.out (Nat.le_refl _)))
      clear hst0 hC
      have hp1 := eq_true hx
      have hq1 := eq_true hlt
      go_wp2_with fail
      refine (inners_calls _ _ _ _ HC.out hcl HPP.out.1).mono ?_
      rintro e w1 ⟨v, rfl, hv, hb1⟩
      obtain ⟨A, c, rfl, hc, hCv⟩ := Kd.R_reads hv
      have HV := Aside0.mk hv
      have HO1 := Aside0.mk (Kd.R_below HO.out hb1)
      have HB1 := Aside0.mk (below_step HB.out hb1)
      have HX := Aside0.mk hb1.size
      have HOL : Aside0 (∀ k, u5.ownBlock = some k → k < wr.heap.size) := ⟨fun k hk => own_lt (Kd.R_own HO.out).choose_spec k hk⟩
      have HWR := Aside0.mk HB.out.size
      clear hv hCv hb1 HO HB
      go_wp2_with (first | (at_builtin; refine Kd.R_append (ptrK 85 kMs) (w0 := w) w.heap.size rfl (.tmp 17) (.tmp 18) 100 101 (.pointer none) 8 rfl Try.underlying100 info101 rfl (by decide) (by omega) u5 (l0.take x.toNat) p [.pointer (some ⟨w1.heap.size, 0, none⟩)] (fun _ => True) (fun k => wr.heap.size ≤ k) rfl (by first | (go_simp; done) | (go_simp; rfl)) ?aP ?aK (fun _ _ => trivial) (Kd.R_alloc HO1.out _) (below_alloc HB1.out _) ?aS ?aL ?_; (case aP => exact ⟨w1.heap.size, [.slice A p.length c], rfl, HX.out, HB1.out.size, blk_new w1 _, _, rfl, Kd.R_alloc (Kd.R_lower (Kd.R_mono (Kd.R_bound HV.out) (fun k hk => ⟨hk.2.1, by have := hk.2.2.1; omega⟩)) HWR.out) _⟩); (case aK => intro k hk; exact ⟨trivial, fun h => by have := HOL.out k h.symm; omega⟩); (case aS => have := HB1.out.size; simp; omega); (case aL => rw [List.length_take]; omega); intro v1 w2 ho hb hg2 hat; have HO2 := Aside0.mk ho; have HB2 := Aside0.mk hb; clear ho hb hg2 hat HO1 HB1))
      go_roundw
      case rel => exact ⟨x + 1, by omega, by omega, rfl, ⟨by rw [hst.out]; exact HO2.out⟩, HB2⟩
      case measure => simp [intOf]; omega
    · have hxe : x = (l0.length : Int) := by omega
      subst hxe
      have HO := HO.out
      simp only [Int.toNat_natCast, List.take_length] at HO
      obtain ⟨A, c, rfl, hc, hC⟩ := Kd.R_reads HO
      have HD := Aside0.mk hC
      have HR1b := Aside0.mk (Kd.C_below HR1.out (Below.mono (B := w.heap.size) HB.out (Nat.le_refl _)))
      clear HO hC
      go_wp2_with fail
      refine (labelSet_calls _ _ _ _ HR1b.out hc1 hlen1 HS.out).mono ?_
      rintro e w2 ⟨b, rfl, hbb, ho, hb2⟩
      have HO := Aside0.mk ho
      have HD2 := Aside0.mk (Kd.C_below HD.out hb2)
      have HB2 := Aside0.mk (below_step HB.out hb2)
      clear hbb ho hb2 HB HD
      go_wp2_with fail
      refine (SetMatches_calls _ _ _ _ _ _ _ HD2.out hc hlen HP.out HO.out).mono ?_
      rintro e w3 ⟨rfl, rfl⟩
      go_wp2
      go_ret
      exact ⟨rfl, HB2.out⟩
end Go.Proofs.Ytbcijcmmpbkkbaa.Q
