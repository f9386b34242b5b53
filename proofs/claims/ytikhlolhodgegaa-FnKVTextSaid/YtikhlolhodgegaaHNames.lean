/- The names and the values of a set's labels and of a list's: what impl.Names, Values, PairNames and PairValues return. No condition beyond the lengths named. -/
import Derived.Test.YtikhlolhodgegaaHKv1
import Derived.Test.YtikhlolhodgegaaQimplinPairs
set_option linter.unusedVariables false
set_option linter.unusedSimpArgs false
namespace Go.Proofs.Ytikhlolhodgegaa.Q
open Go.RowKit Go.Proofs.YtikhlolhodgegaaW.PrintWords Go.Proofs.YtikhlolhodgegaaW.PrintLast Go.Proofs.YtikhlolhodgegaaW.PrintMore
attribute [local go_sem] max2_int min2_int max_two min_two max_three min_three max_four min_four
theorem take_step115 (l : List S115) (x : Int) (h0 : 0 ≤ x) (h1 : x < (l.length : Int)) : l.take (x + 1).toNat = l.take x.toNat ++ [rd_T115 l x] ∧ rd_T115 l x ∈ l := by
  obtain ⟨n, rfl⟩ := Int.eq_ofNat_of_zero_le h0
  have e : ((n : Int) + 1).toNat = n + 1 := by omega
  rw [e, Int.toNat_natCast, List.take_succ_eq_append_getElem (by omega)]
  have e2 : rd_T115 l n = l[n] := by simp [rd_T115, List.getD_eq_getElem?_getD, List.getElem?_eq_getElem (show n < l.length by omega)]
  rw [e2]
  exact ⟨rfl, List.getElem_mem _⟩
set_option maxRecDepth 100000 in
set_option maxHeartbeats 1600000 in
theorem tNames_calls (A0 : Option Addr) (c0 : Nat) (l0 : List S115) (w : World) (hr0 : Kd.C k115 w A0 l0.length l0) (_hc0 : l0.length ≤ c0) (hlen : l0.length ≤ 1000000000) :
    Calls Try.prog 68 #[.slice A0 l0.length c0] w fun e w' => ∃ v, e = .returned v ∧ Kd.R Kd.string 9 w' w.heap.size (fun _ => True) v (l0.map (fun p => p.f0)) ∧ Below w.heap.size w w' := by
  have hu115 := Try.underlying115
  have HR0 := Aside0.mk hr0
  clear hr0
  obtain ⟨iS, hiS, hzS, hsS, hbS⟩ := info_parts infoStr
  go_enter Try.func68, Try.ntmps68
  go_wp2_with (at_make; refine wpList_make_own _ rfl _ _ 38 rfl w.heap.size 9 iS _ 1 Try.underlying38 hiS hzS hsS .i64 .i64 _ l0.length rfl rfl rfl (by rw [hbS]; omega) (by unfold maxLen; omega) (Nat.le_refl _) ?_; intro w1 ho1 hg1; have HV1 : Aside0 (Kd.R Kd.string 9 w1 w.heap.size (fun _ => True) _ _) := ⟨R_made Kd.string ho1 trivial⟩; have HB1 := Aside0.mk ((Below.refl w.heap.size w).grown hg1 (Nat.le_refl _) (fun j hj => by cases hj)); clear ho1 hg1)
  go_loopw [3, 11] (fun v3 v11 wx => ∃ x : Int, 0 ≤ x ∧ x ≤ (l0.length : Int) ∧ v11 = .int .i64 x ∧ Aside0 (Kd.R Kd.string 9 wx w.heap.size (fun _ => True) v3 ((l0.take x.toNat).map (fun p => p.f0))) ∧ Aside0 (Below w.heap.size w wx)) (fun _ v11 _ => ((l0.length : Int) - intOf v11).toNat)
  case atStart => exact ⟨0, by omega, by omega, rfl, ⟨by simpa using HV1.out⟩, HB1⟩
  case round =>
    obtain ⟨x, hx, hxl, rfl, HV, HX⟩ := hrel
    by_cases hlt : x < (l0.length : Int)
    · obtain ⟨ad, e1, hx0, hx1⟩ := at_T115 (Kd.C_below HR0.out HX.out) x hx hlt
      cases e1
      have hp := eq_true hx
      have hq := eq_true hlt
      have hst := Aside0.mk (take_step115 l0 x hx hlt).1
      generalize rd_T115 l0 x = p at *
      go_wp2_with (at_builtin; refine Kd.R_append Kd.string (w0 := w) w.heap.size rfl (.tmp 15) (.tmp 18) 38 9 (.string ⟨#[]⟩) 16 rfl Try.underlying38 infoStr rfl (by decide) (by omega) u3 ((l0.take x.toNat).map (fun p => p.f0)) p.f0 [.string p.f0] (fun _ => True) (fun _ => False) rfl (by first | (go_simp; done) | (go_simp; rfl)) rfl (fun _ hk => hk.elim) (fun _ _ => trivial) (Kd.R_alloc HV.out _) (below_alloc HX.out _) ?aS ?aL ?_; (case aS => exact (below_alloc HX.out _).size); (case aL => rw [List.length_map, List.length_take]; omega); intro v1 w6 ho hb hg6 hat6; have HO6 := Aside0.mk ho; have HB6 := Aside0.mk hb; clear ho hb hg6 hat6)
      go_roundw
      case rel => exact ⟨x + 1, by omega, by omega, by go_simp, ⟨by rw [hst.out, List.map_append]; exact HO6.out⟩, HB6⟩
      case measure => simp [intOf]; omega
    · have hxe : x = (l0.length : Int) := by omega
      subst hxe
      have HV2 := HV.out
      rw [Int.toNat_natCast, List.take_length] at HV2
      have HV2 := Aside0.mk HV2
      go_wp2
      go_ret
      exact ⟨_, rfl, HV2.out, HX.out⟩
set_option maxRecDepth 100000 in
set_option maxHeartbeats 1600000 in
theorem tValues_calls (A0 : Option Addr) (c0 : Nat) (l0 : List S115) (w : World) (hr0 : Kd.C k115 w A0 l0.length l0) (_hc0 : l0.length ≤ c0) (hlen : l0.length ≤ 1000000000) :
    Calls Try.prog 69 #[.slice A0 l0.length c0] w fun e w' => ∃ v, e = .returned v ∧ Kd.R Kd.string 9 w' w.heap.size (fun _ => True) v (l0.map (fun p => p.f1)) ∧ Below w.heap.size w w' := by
  have hu115 := Try.underlying115
  have HR0 := Aside0.mk hr0
  clear hr0
  obtain ⟨iS, hiS, hzS, hsS, hbS⟩ := info_parts infoStr
  go_enter Try.func69, Try.ntmps69
  go_wp2_with (at_make; refine wpList_make_own _ rfl _ _ 38 rfl w.heap.size 9 iS _ 1 Try.underlying38 hiS hzS hsS .i64 .i64 _ l0.length rfl rfl rfl (by rw [hbS]; omega) (by unfold maxLen; omega) (Nat.le_refl _) ?_; intro w1 ho1 hg1; have HV1 : Aside0 (Kd.R Kd.string 9 w1 w.heap.size (fun _ => True) _ _) := ⟨R_made Kd.string ho1 trivial⟩; have HB1 := Aside0.mk ((Below.refl w.heap.size w).grown hg1 (Nat.le_refl _) (fun j hj => by cases hj)); clear ho1 hg1)
  go_loopw [3, 11] (fun v3 v11 wx => ∃ x : Int, 0 ≤ x ∧ x ≤ (l0.length : Int) ∧ v11 = .int .i64 x ∧ Aside0 (Kd.R Kd.string 9 wx w.heap.size (fun _ => True) v3 ((l0.take x.toNat).map (fun p => p.f1))) ∧ Aside0 (Below w.heap.size w wx)) (fun _ v11 _ => ((l0.length : Int) - intOf v11).toNat)
  case atStart => exact ⟨0, by omega, by omega, rfl, ⟨by simpa using HV1.out⟩, HB1⟩
  case round =>
    obtain ⟨x, hx, hxl, rfl, HV, HX⟩ := hrel
    by_cases hlt : x < (l0.length : Int)
    · obtain ⟨ad, e1, hx0, hx1⟩ := at_T115 (Kd.C_below HR0.out HX.out) x hx hlt
      cases e1
      have hp := eq_true hx
      have hq := eq_true hlt
      have hst := Aside0.mk (take_step115 l0 x hx hlt).1
      generalize rd_T115 l0 x = p at *
      go_wp2_with (at_builtin; refine Kd.R_append Kd.string (w0 := w) w.heap.size rfl (.tmp 15) (.tmp 18) 38 9 (.string ⟨#[]⟩) 16 rfl Try.underlying38 infoStr rfl (by decide) (by omega) u3 ((l0.take x.toNat).map (fun p => p.f1)) p.f1 [.string p.f1] (fun _ => True) (fun _ => False) rfl (by first | (go_simp; done) | (go_simp; rfl)) rfl (fun _ hk => hk.elim) (fun _ _ => trivial) (Kd.R_alloc HV.out _) (below_alloc HX.out _) ?aS ?aL ?_; (case aS => exact (below_alloc HX.out _).size); (case aL => rw [List.length_map, List.length_take]; omega); intro v1 w6 ho hb hg6 hat6; have HO6 := Aside0.mk ho; have HB6 := Aside0.mk hb; clear ho hb hg6 hat6)
      go_roundw
      case rel => exact ⟨x + 1, by omega, by omega, by go_simp, ⟨by rw [hst.out, List.map_append]; exact HO6.out⟩, HB6⟩
      case measure => simp [intOf]; omega
    · have hxe : x = (l0.length : Int) := by omega
      subst hxe
      have HV2 := HV.out
      rw [Int.toNat_natCast, List.take_length] at HV2
      have HV2 := Aside0.mk HV2
      go_wp2
      go_ret
      exact ⟨_, rfl, HV2.out, HX.out⟩
def inP (p : S26) : S115 := ⟨p.f0, p.f1⟩
theorem inPairs_from (l : List S26) (hl : l.length < 4398046511104) (d : Nat) : ∀ (n k : Nat) (X : List S115), n + d = l.length → d < k → X.length = n →
    impl_inPairs.l0 k X l (l.length : Int) n = some (X ++ (l.drop n).map inP) := by
  induction d with
  | zero =>
    intro n k X hn hk hX
    obtain ⟨k, rfl⟩ : ∃ m, k = m + 1 := ⟨k - 1, by omega⟩
    simp only [impl_inPairs.l0]
    rw [if_neg (by omega), List.drop_of_length_le (by omega)]
    simp
  | succ d ih =>
    intro n k X hn hk hX
    obtain ⟨k, rfl⟩ : ∃ m, k = m + 1 := ⟨k - 1, by omega⟩
    have hlt : n < l.length := by omega
    simp only [impl_inPairs.l0]
    have e1 : rd_T26 l (n : Int) = l[n] := by simp [rd_T26, List.getD_eq_getElem?_getD, List.getElem?_eq_getElem hlt]
    have e2 : wrap64 ((n : Int) + 1) = ((n + 1 : Nat) : Int) := by unfold wrap64; omega
    rw [if_pos (by omega), if_pos (by omega), if_pos (by omega), if_pos (by omega), e1, e2, ih (n + 1) k _ (by omega) (by omega) (by simp [hX]), List.drop_eq_getElem_cons hlt, List.map_cons, List.append_assoc]
    rfl
theorem inPairs_is (l : List S26) (hl : l.length < 4398046511104) (k : Nat) (hk : l.length < k) : impl_inPairs.f k l = some (l.map inP) := by
  unfold impl_inPairs.f
  have := inPairs_from l hl l.length 0 k [] (by omega) hk rfl
  simpa using this
set_option maxRecDepth 100000 in
set_option maxHeartbeats 800000 in
theorem kvNames_calls (b n : Nat) (D : DataW Unit) (w : World) (hown : OwnsKv w b n D) (hsz : Maps.size D ≤ 1000000000) :
    Calls Try.prog 65 #[.map (some b)] w fun e w' => ∃ v, e = .returned v ∧ ∃ (ks : List (List UInt8)), ks.Perm (strKeys D) ∧ ∃ s : Nat, KvHead s ks ∧ Kd.R Kd.string 9 w' w.heap.size (fun _ => True) v (((kvL s ks).map (tpair D)).map (fun p => p.f0)) ∧ Below w.heap.size w w' := by
  have HO := Aside0.mk hown
  clear hown
  go_enter Try.func65, Try.ntmps65
  go_wp2_with fail
  refine (kvSorted_calls _ _ _ _ HO.out hsz).mono ?_
  rintro e w2 ⟨v, rfl, ks, hks, s, hh, hR, hB2⟩
  have hlen : (kvL s ks).length ≤ 1000000000 := by rw [kvL_len s ks hh.le, permK_len hks HO.out]; exact hsz
  rw [← List.length_map (tpair D)] at hlen
  have HB2 := Aside0.mk hB2
  obtain ⟨A, c, e4, hc4, hC4⟩ := Kd.R_reads hR
  subst e4
  have HC4 := Aside0.mk hC4
  have HKS := Aside0.mk hks
  have HHH := Aside0.mk hh
  clear hB2 hR hC4 hks hh
  generalize hL : (kvL s ks).map (tpair D) = L at *
  have HL := Aside0.mk hL
  clear hL
  go_wp2_with fail
  refine (tNames_calls _ _ _ _ HC4.out hc4 hlen).mono ?_
  rintro e w3 ⟨v3, rfl, hR3, hB3⟩
  have HB3 := Aside0.mk (below_step HB2.out hB3)
  have HR3 := Aside0.mk (Kd.R_lower hR3 HB2.out.size)
  clear hR3 hB3
  go_wp2
  go_ret
  exact ⟨_, rfl, ks, HKS.out, s, HHH.out, by rw [HL.out]; exact HR3.out, HB3.out⟩
def impl_Names.f (l0 : List (S26)) : Option (List ByteArray) := if l0.length ≤ 300000000 ∧ shortPairs l0 then some ((kvO l0).map (fun p => p.f0)) else none
set_option maxRecDepth 100000 in
set_option maxHeartbeats 800000 in
theorem impl_Names.calls (A0 : Option Addr) (c0 : Nat) (l0 : List (S26)) (r : List ByteArray) (w : World) (hr0 : Kd.C k26 w A0 l0.length l0) (hc0 : l0.length ≤ c0) (h : impl_Names.f l0 = some r) :
    Calls Try.prog 35 #[.slice A0 l0.length c0] w fun e w' => ∃ v0_ : Value, e = .returned (v0_) ∧ Kd.R Kd.string 9 w' w.heap.size (fun _ => True) v0_ r ∧ Below w.heap.size w w' := by
  unfold impl_Names.f at h
  split at h
  case isFalse => cases h
  rename_i hh
  obtain ⟨hl0, hs0⟩ := hh
  obtain rfl := Option.some.inj h
  clear h
  have HR0 := Aside0.mk hr0
  have HS0 := Aside0.mk hs0
  clear hr0 hs0
  go_enter Try.func35, Try.ntmps35
  go_wp2_with fail
  refine (kv_calls _ _ _ _ HR0.out hc0 (by omega) HS0.out).mono ?_
  rintro e w1 ⟨b1, rfl, hb1, ho1, hB1⟩
  have HO1 := Aside0.mk ho1
  have HB1 := Aside0.mk hB1
  clear hb1 ho1 hB1
  go_wp2_with fail
  refine (kvNames_calls _ _ _ _ HO1.out (by have := size_mset l0; omega)).mono ?_
  rintro e w2 ⟨v, rfl, ks, hks, s, hh, hR, hB2⟩
  have HE2 : Aside0 (((kvL s ks).map (tpair (mset l0))).map (fun p => p.f0) = (kvO l0).map (fun p => p.f0)) := ⟨by rw [← kvOrd_is l0 ks hks s hh, List.map_map, List.map_map]; rfl⟩
  have HB2 := Aside0.mk (below_step HB1.out hB2)
  have HR2 := Aside0.mk (Kd.R_lower hR HB1.out.size)
  clear hB2 hR hks hh
  go_wp2
  go_ret
  exact ⟨_, rfl, by have := HR2.out; rwa [HE2.out] at this, HB2.out⟩
def impl_PairNames.f (l0 : List (S26)) : Option (List ByteArray) := if l0.length ≤ 300000000 then some (l0.map (fun p => p.f0)) else none
set_option maxRecDepth 100000 in
set_option maxHeartbeats 800000 in
theorem impl_PairNames.calls (A0 : Option Addr) (c0 : Nat) (l0 : List (S26)) (r : List ByteArray) (w : World) (hr0 : Kd.C k26 w A0 l0.length l0) (hc0 : l0.length ≤ c0) (h : impl_PairNames.f l0 = some r) :
    Calls Try.prog 39 #[.slice A0 l0.length c0] w fun e w' => ∃ v0_ : Value, e = .returned (v0_) ∧ Kd.R Kd.string 9 w' w.heap.size (fun _ => True) v0_ r ∧ Below w.heap.size w w' := by
  unfold impl_PairNames.f at h
  split at h
  case isFalse => cases h
  rename_i hl0
  obtain rfl := Option.some.inj h
  clear h
  have HR0 := Aside0.mk hr0
  clear hr0
  go_enter Try.func39, Try.ntmps39
  go_wp2_with fail
  refine (impl_inPairs.calls _ _ _ _ _ _ HR0.out hc0 (inPairs_is l0 (by omega) (l0.length + 1) (by omega))).mono ?_
  rintro e w1 ⟨v1, rfl, hR1, hB1⟩
  have HB1 := Aside0.mk hB1
  obtain ⟨A, c, e4, hc4, hC4⟩ := Kd.R_reads hR1
  subst e4
  have HC4 := Aside0.mk hC4
  have hlen : (l0.map inP).length ≤ 1000000000 := by rw [List.length_map]; omega
  have HE : Aside0 ((l0.map inP).map (fun p => p.f0) = l0.map (fun p => p.f0)) := ⟨by rw [List.map_map]; rfl⟩
  clear hB1 hR1 hC4
  generalize l0.map inP = L at *
  go_wp2_with fail
  refine (tNames_calls _ _ _ _ HC4.out hc4 hlen).mono ?_
  rintro e w3 ⟨v3, rfl, hR3, hB3⟩
  have HB3 := Aside0.mk (below_step HB1.out hB3)
  have HR3 := Aside0.mk (Kd.R_lower hR3 HB1.out.size)
  clear hR3 hB3
  go_wp2
  go_ret
  exact ⟨_, rfl, by have := HR3.out; rwa [HE.out] at this, HB3.out⟩
set_option maxRecDepth 100000 in
set_option maxHeartbeats 800000 in
theorem kvValues_calls (b n : Nat) (D : DataW Unit) (w : World) (hown : OwnsKv w b n D) (hsz : Maps.size D ≤ 1000000000) :
    Calls Try.prog 66 #[.map (some b)] w fun e w' => ∃ v, e = .returned v ∧ ∃ (ks : List (List UInt8)), ks.Perm (strKeys D) ∧ ∃ s : Nat, KvHead s ks ∧ Kd.R Kd.string 9 w' w.heap.size (fun _ => True) v (((kvL s ks).map (tpair D)).map (fun p => p.f1)) ∧ Below w.heap.size w w' := by
  have HO := Aside0.mk hown
  clear hown
  go_enter Try.func66, Try.ntmps66
  go_wp2_with fail
  refine (kvSorted_calls _ _ _ _ HO.out hsz).mono ?_
  rintro e w2 ⟨v, rfl, ks, hks, s, hh, hR, hB2⟩
  have hlen : (kvL s ks).length ≤ 1000000000 := by rw [kvL_len s ks hh.le, permK_len hks HO.out]; exact hsz
  rw [← List.length_map (tpair D)] at hlen
  have HB2 := Aside0.mk hB2
  obtain ⟨A, c, e4, hc4, hC4⟩ := Kd.R_reads hR
  subst e4
  have HC4 := Aside0.mk hC4
  have HKS := Aside0.mk hks
  have HHH := Aside0.mk hh
  clear hB2 hR hC4 hks hh
  generalize hL : (kvL s ks).map (tpair D) = L at *
  have HL := Aside0.mk hL
  clear hL
  go_wp2_with fail
  refine (tValues_calls _ _ _ _ HC4.out hc4 hlen).mono ?_
  rintro e w3 ⟨v3, rfl, hR3, hB3⟩
  have HB3 := Aside0.mk (below_step HB2.out hB3)
  have HR3 := Aside0.mk (Kd.R_lower hR3 HB2.out.size)
  clear hR3 hB3
  go_wp2
  go_ret
  exact ⟨_, rfl, ks, HKS.out, s, HHH.out, by rw [HL.out]; exact HR3.out, HB3.out⟩
def impl_Values.f (l0 : List (S26)) : Option (List ByteArray) := if l0.length ≤ 300000000 ∧ shortPairs l0 then some ((kvO l0).map (fun p => p.f1)) else none
set_option maxRecDepth 100000 in
set_option maxHeartbeats 800000 in
theorem impl_Values.calls (A0 : Option Addr) (c0 : Nat) (l0 : List (S26)) (r : List ByteArray) (w : World) (hr0 : Kd.C k26 w A0 l0.length l0) (hc0 : l0.length ≤ c0) (h : impl_Values.f l0 = some r) :
    Calls Try.prog 37 #[.slice A0 l0.length c0] w fun e w' => ∃ v0_ : Value, e = .returned (v0_) ∧ Kd.R Kd.string 9 w' w.heap.size (fun _ => True) v0_ r ∧ Below w.heap.size w w' := by
  unfold impl_Values.f at h
  split at h
  case isFalse => cases h
  rename_i hh
  obtain ⟨hl0, hs0⟩ := hh
  obtain rfl := Option.some.inj h
  clear h
  have HR0 := Aside0.mk hr0
  have HS0 := Aside0.mk hs0
  clear hr0 hs0
  go_enter Try.func37, Try.ntmps37
  go_wp2_with fail
  refine (kv_calls _ _ _ _ HR0.out hc0 (by omega) HS0.out).mono ?_
  rintro e w1 ⟨b1, rfl, hb1, ho1, hB1⟩
  have HO1 := Aside0.mk ho1
  have HB1 := Aside0.mk hB1
  clear hb1 ho1 hB1
  go_wp2_with fail
  refine (kvValues_calls _ _ _ _ HO1.out (by have := size_mset l0; omega)).mono ?_
  rintro e w2 ⟨v, rfl, ks, hks, s, hh, hR, hB2⟩
  have HE2 : Aside0 (((kvL s ks).map (tpair (mset l0))).map (fun p => p.f1) = (kvO l0).map (fun p => p.f1)) := ⟨by rw [← kvOrd_is l0 ks hks s hh, List.map_map, List.map_map]; rfl⟩
  have HB2 := Aside0.mk (below_step HB1.out hB2)
  have HR2 := Aside0.mk (Kd.R_lower hR HB1.out.size)
  clear hB2 hR hks hh
  go_wp2
  go_ret
  exact ⟨_, rfl, by have := HR2.out; rwa [HE2.out] at this, HB2.out⟩
def impl_PairValues.f (l0 : List (S26)) : Option (List ByteArray) := if l0.length ≤ 300000000 then some (l0.map (fun p => p.f1)) else none
set_option maxRecDepth 100000 in
set_option maxHeartbeats 800000 in
theorem impl_PairValues.calls (A0 : Option Addr) (c0 : Nat) (l0 : List (S26)) (r : List ByteArray) (w : World) (hr0 : Kd.C k26 w A0 l0.length l0) (hc0 : l0.length ≤ c0) (h : impl_PairValues.f l0 = some r) :
    Calls Try.prog 40 #[.slice A0 l0.length c0] w fun e w' => ∃ v0_ : Value, e = .returned (v0_) ∧ Kd.R Kd.string 9 w' w.heap.size (fun _ => True) v0_ r ∧ Below w.heap.size w w' := by
  unfold impl_PairValues.f at h
  split at h
  case isFalse => cases h
  rename_i hl0
  obtain rfl := Option.some.inj h
  clear h
  have HR0 := Aside0.mk hr0
  clear hr0
  go_enter Try.func40, Try.ntmps40
  go_wp2_with fail
  refine (impl_inPairs.calls _ _ _ _ _ _ HR0.out hc0 (inPairs_is l0 (by omega) (l0.length + 1) (by omega))).mono ?_
  rintro e w1 ⟨v1, rfl, hR1, hB1⟩
  have HB1 := Aside0.mk hB1
  obtain ⟨A, c, e4, hc4, hC4⟩ := Kd.R_reads hR1
  subst e4
  have HC4 := Aside0.mk hC4
  have hlen : (l0.map inP).length ≤ 1000000000 := by rw [List.length_map]; omega
  have HE : Aside0 ((l0.map inP).map (fun p => p.f1) = l0.map (fun p => p.f1)) := ⟨by rw [List.map_map]; rfl⟩
  clear hB1 hR1 hC4
  generalize l0.map inP = L at *
  go_wp2_with fail
  refine (tValues_calls _ _ _ _ HC4.out hc4 hlen).mono ?_
  rintro e w3 ⟨v3, rfl, hR3, hB3⟩
  have HB3 := Aside0.mk (below_step HB1.out hB3)
  have HR3 := Aside0.mk (Kd.R_lower hR3 HB1.out.size)
  clear hR3 hB3
  go_wp2
  go_ret
  exact ⟨_, rfl, by have := HR3.out; rwa [HE.out] at this, HB3.out⟩
end Go.Proofs.Ytikhlolhodgegaa.Q
