/- The signature of a set of labels without some names. No condition beyond the lengths named. -/
import Derived.Test.YtikhlolhodgegaaHPr1
import Derived.Test.YtikhlolhodgegaaHRem1
set_option linter.unusedVariables false
set_option linter.unusedSimpArgs false
namespace Go.Proofs.Ytikhlolhodgegaa.Q
open Go.RowKit Go.Proofs.YtikhlolhodgegaaW.PrintWords Go.Proofs.YtikhlolhodgegaaW.PrintLast Go.Proofs.YtikhlolhodgegaaW.PrintMore
open Go.Maps (Keyed string_keyed)
open Go.Proofs (encStr)
attribute [local go_sem] max2_int min2_int max_two min_two max_three min_three max_four min_four
set_option maxRecDepth 100000 in
set_option maxHeartbeats 1600000 in
theorem signw_calls (b n : Nat) (D : DataW Unit) (b2 n2 : Nat) (KD : DataW Unit) (names : List ByteArray) (w : World) (hown : OwnsSet w b n D) (hsz : Maps.size D ≤ 1000000000) (hkd : w.ownsMap Try.prog 105 (unitElem (H := Unit)) b2 n2 KD) (hG : ∀ x, Maps.has KD (.string x) = gone names x) :
    Calls Try.prog 82 #[.map (some b), .map (some b2)] w fun e w' => ∃ ks : List (List UInt8), e = .returned (.int .u64 (sumL D (srt (ks.filter (fun k => !gone names k))))) ∧ ks.Perm (strKeys D) ∧ Below w.heap.size w w' := by
  have hbl := World.ownsMap.lt hown
  have HO := Aside0.mk hown
  have HKD := Aside0.mk hkd
  have HGN := Aside0.mk hG
  have HBL2 := Aside0.mk (World.ownsMap.lt hkd)
  have HBL := Aside0.mk hbl
  clear hown hbl hkd hG
  have HB := Aside0.mk (Below.refl w.heap.size w)
  obtain ⟨iS, hiS, hzS, hsS, hbS⟩ := info_parts infoLN
  by_cases hz : Maps.size D = 0
  · have hz1 : (((Maps.size D : Nat) : Int) == 0) = true := beq_iff_eq.2 (by omega)
    have hz2 : (Maps.size D == 0) = true := beq_iff_eq.2 hz
    have HZ := Aside0.mk hz
    clear hz
    go_enter Try.func82, Try.ntmps82
    go_wp2_with (at_len; refine wpList_len_own _ rfl _ 107 rfl 105 110 Try.underlying107 _ b n _ rfl HO.out ?_)
    go_ret
    exact ⟨[], by rw [List.filter_nil, sum_empty]; rfl, by rw [keysN_empty HO.out HZ.out], HB.out⟩
  · have hz1 : (((Maps.size D : Nat) : Int) == 0) = false := beq_eq_false_iff_ne.2 (by omega)
    have hz2 : (Maps.size D == 0) = false := beq_eq_false_iff_ne.2 hz
    have HZ := Aside0.mk hz
    clear hz
    go_enter Try.func82, Try.ntmps82
    go_wp2_with (first
      | (at_len; refine wpList_len_own _ rfl _ 107 rfl 105 110 Try.underlying107 _ b n _ rfl HO.out ?_)
      | (at_make; refine wpList_make_own _ rfl _ _ 112 rfl w.heap.size 105 iS _ 1 Try.underlying112 hiS hzS hsS .i64 .i64 _ (Maps.size D) rfl rfl rfl (by rw [hbS]; omega) (by unfold maxLen; omega) (Nat.le_refl _) ?_; intro w2 ho2 hg2; have HK2 := Aside0.mk ho2; have HB2 := Aside0.mk (HB.out.grown hg2 HB.out.size (fun j hj => by cases hj)); have HO2 := Aside0.mk (own_R_below HO.out HB2.out); have HL2 : Aside0 (w.heap.size < w2.heap.size) := ⟨(World.ownsRow.lt ho2 _ rfl).2⟩; clear ho2 hg2)
      | (at_range; refine wpList_range_own _ rfl _ 107 rfl 105 110 keyed67 Try.underlying107 _ b n _ rfl HO2.out ?_; intro w0 hrg0 hg0 hs0; have HRG := Aside0.mk hrg0; have HG0 := Aside0.mk hg0; have HS0 : Aside0 (w2.heap.size < w0.heap.size) := ⟨by omega⟩; clear hrg0 hg0 hs0))
    go_frame
    generalize hr : w2.heap.size = r at *
    clear hr
    go_loopw [5] (fun v5 wr => ∃ (left : Lit → Bool) (cnt : Nat) (ks : List (List UInt8)), Aside0 (wr.ranges Try.prog 105 (plainElem Try.prog 110) b r n D left cnt) ∧ Aside0 (ks.length + cnt ≤ Maps.size D) ∧ Aside0 (Kd.R Kd.string 105 wr w.heap.size (fun k => k ≠ r) v5 ((ks.filter (fun k => !gone names k)).map byB)) ∧ Aside0 (r < wr.heap.size) ∧ Aside0 (Collected D left ks) ∧ Aside0 (wr.ownsMap Try.prog 105 (unitElem (H := Unit)) b2 n2 KD) ∧ Aside0 (Below w.heap.size w wr)) (fun _ wr => wr.rangeLeft b r)
    case atStart => exact ⟨_, _, [], HRG, ⟨by simp⟩, ⟨R_made Kd.string (World.ownsRow.kept HK2.out HG0.out (.inr (by simp [Value.ownBlock]))) (by have := HL2.out; omega)⟩, HS0, ⟨Collected.start D⟩, ⟨World.ownsMap.kept HKD.out (grown_of_below (HB2.out.grown HG0.out HB2.out.size (fun j hj => by cases hj)) none) (by simp)⟩, ⟨HB2.out.grown HG0.out HB2.out.size (fun j hj => by cases hj)⟩⟩
    case round =>
      obtain ⟨left, cnt, ks, HR, HCN, HN, HS, HC, HK, HB⟩ := hrel
      go_wp2_with (at_next; refine wpList_next_ranges _ rfl _ rfl 105 keyed67 (plainElem Try.prog 110) encStr Value.string (fun key kl hk => by obtain ⟨x, hx, _⟩ := Maps.keyOf_str Try.underlying105 hk; exact ⟨x, hx⟩) (fun v y hv => by obtain ⟨c, rfl, _⟩ := plainElem_string_inv Try.underlying110 hv; exact ⟨c, rfl⟩) b r n _ _ _ rfl HR.out ?_ ?_)
      · intro hc0 hl0
        have HL := Aside0.mk hl0
        clear hc0 hl0
        have HP := Aside0.mk (HC.out.perm HO.out keyed67 Try.underlying105 HL.out)
        have hl : ks.length ≤ 1000000000 := by rw [perm_len HP.out HO.out]; exact hsz
        have hfl : (ks.filter (fun k => !gone names k)).length ≤ ks.length := List.length_filter_le _ _
        have HLE : Aside0 (∀ s ∈ srt (ks.filter (fun k => !gone names k)), s.size ≤ maxLen) := ⟨fun s hs => by
          have := strKeys_le HO.out Try.underlying105 _ (HP.out.mem_iff.1 (List.mem_filter.1 (srt_mem hs)).1)
          rwa [Array.length_toList] at this⟩
        generalize hL : ks.filter (fun k => !gone names k) = L at *
        have HLL := Aside0.mk hL
        clear hL
        have HN' := Aside0.mk (Kd.R_mono HN.out (fun _ _ => trivial) : Kd.R Kd.string 105 wr w.heap.size (fun _ => True) _ _)
        obtain ⟨A, c, e4, hc4, _⟩ := Kd.R_reads HN'.out
        rw [List.length_map] at e4 hc4
        subst e4
        by_cases hz0 : L.length = 0
        · have hz3 : (((L.length : Nat) : Int) == 0) = true := beq_iff_eq.2 (by omega)
          have hz4 : (L.length == 0) = true := beq_iff_eq.2 hz0
          have HLN : Aside0 (L = []) := ⟨List.eq_nil_of_length_eq_zero hz0⟩
          clear hz0
          go_wp2
          go_ret
          exact ⟨ks, by rw [HLL.out, HLN.out, sum_empty]; rfl, HP.out, HB.out⟩
        have hz3 : (((L.length : Nat) : Int) == 0) = false := beq_eq_false_iff_ne.2 (by omega)
        have hz4 : (L.length == 0) = false := beq_eq_false_iff_ne.2 hz0
        clear hz0
        go_wp2_with (go_at_call 74; refine (sortN_calls (.slice A L.length c) L w.heap.size _ HN'.out (by omega)).mono ?_; rintro e w4 ⟨rfl, hr, hg⟩; have HB4 := Aside0.mk (HB.out.grown hg HB.out.size (fun j hj => Kd.R_base HN'.out _ hj)); have HNC := Aside0.mk (Kd.R_reads' hr).2.2; clear hr hg)
        have hnl : (srt L).length = L.length := srt_len L
        have hll : ((srt L).length : Int) ≤ 1000000000 := by rw [hnl]; omega
        generalize hns : srt L = ns at *
        rw [← hnl] at *
        have HX := Aside0.mk (Drawn0.refl w4)
        go_wp2_with (go_at_call 94; refine (model_hashNew.calls 14695981039346656037 _ rfl).mono ?_; rintro e w5 ⟨rfl, hd⟩; have HY := Aside0.mk (drawn_trans HX.out hd); clear HX hd; have HX := HY; clear HY)
        go_loopw [9, 45] (fun v9 v45 wx => ∃ x : Int, 0 ≤ x ∧ x ≤ (ns.length : Int) ∧ v45 = .int .i64 x ∧ v9 = .int .u64 ((ns.take x.toNat).foldl (sumP D) 14695981039346656037) ∧ Aside0 (Drawn0 w4 wx)) (fun _ v45 _ => ((ns.length : Int) - intOf v45).toNat)
        case atStart => exact ⟨0, by omega, by omega, rfl, rfl, HX⟩
        case round =>
          obtain ⟨x, hx, hxl, rfl, rfl, HX⟩ := hrel
          by_cases hlt : x < (ns.length : Int)
          · obtain ⟨ad, e1, hx0⟩ := Kd.at_string (Kd.C_below HNC.out HX.out.below) x hx hlt
            cases e1
            have hmt := rd_memS ns x hx hlt
            have HOW := Aside0.mk (own_R_below HO.out (HB4.out.trans (HX.out.below.mono HB4.out.size)))
            generalize rdOf ByteArray.empty ns x = s at *
            have hss := HLE.out s hmt.1
            have hst := Aside0.mk hmt.2
            have HKY : Aside0 (keyOf Try.prog 105 (.string s) = some (.string s.data.toList)) := ⟨WideMaps.keyOf_string_mk Try.underlying105 hss⟩
            have HS1 : Aside0 (s.size ≤ 9223372036854775807) := ⟨by unfold maxLen at hss; omega⟩
            have hp := eq_true hx
            have hq := eq_true hlt
            clear hmt hss
            generalize hh0 : (ns.take x.toNat).foldl (sumP D) 14695981039346656037 = h0 at *
            have HH0 := Aside0.mk hh0
            clear hh0
            have HZ0 := Aside0.mk (Drawn0.refl wr)
            go_wp2_with (first | (go_at_call 96; refine (model_hashAddByte.calls _ _ _ _ (hashAddByte_is _ _)).mono ?_; rintro e w5 ⟨rfl, hd⟩; have HY := Aside0.mk (drawn_trans HZ0.out hd); clear HZ0 hd; have HZ0 := HY; clear HY) | (go_at_call 95; refine (hashAddP_calls _ _ _ (by first | exact HS1.out | exact HSL.out)).mono ?_; rintro e w4 ⟨rfl, hd⟩; have HY := Aside0.mk (drawn_trans HZ0.out hd); clear HZ0 hd; have HZ0 := HY; clear HY) | (at_lookup; refine lookup_str _ rfl _ _ 107 rfl 105 110 keyed67 Try.underlying107 Try.underlying110 (zero68 _) b n D rfl (own_R_below HOW.out HZ0.out.below) _ s rfl HKY.out ?_; intro s2 hs2 hsl2; have HSV := Aside0.mk hs2; have HSL : Aside0 (s2.size ≤ 9223372036854775807) := ⟨by unfold maxLen at hsl2; omega⟩; clear hs2 hsl2))
            go_roundw
            case rel => exact ⟨x + 1, by omega, by omega, by go_simp, by rw [hst.out, List.foldl_append, HH0.out, HSV.out]; rfl, ⟨drawn_trans HX.out HZ0.out⟩⟩
            case measure => simp [intOf]; omega
          · have hxe : x = (ns.length : Int) := by omega
            subst hxe
            rw [Int.toNat_natCast, List.take_length]
            go_wp2
            go_ret
            exact ⟨ks, by rw [HLL.out, hns]; rfl, HP.out, HB4.out.trans (HX.out.below.mono HB4.out.size)⟩
      · intro x c kl yd yp w3 cnt2 hkey hlk hv hat hrg2 hlt hg2 hs2 hen
        obtain ⟨x', ex, rfl, hxl⟩ := Maps.keyOf_str Try.underlying105 hkey
        obtain rfl : x = x' := encStr_inj ex
        have HC2 := Aside0.mk (HC.out.step hlk hat)
        have HR2 := Aside0.mk hrg2
        have HN2 := Aside0.mk (Kd.R_grown HN.out hg2 (fun k hk e => hk (by injection e)))
        have HB3 := Aside0.mk (HB.out.grown hg2 HB.out.size (fun j hj => by cases hj; exact Nat.le_of_lt HL2.out))
        have HS2 : Aside0 (r < w3.heap.size) := ⟨by rw [hs2]; exact HS.out⟩
        have HK3 := Aside0.mk (World.ownsMap.kept HK.out hg2 (fun e => by have := HBL2.out; have := HL2.out; injection e with e; omega))
        have HF : Aside0 (∀ k, w3.heap.size ≤ k → k ≠ r) := ⟨fun k hk => by have := HS2.out; omega⟩
        have HLT := Aside0.mk hlt
        have HCN2 : Aside0 (ks.length + 1 + cnt2 ≤ Maps.size D) := ⟨by have := HCN.out; omega⟩
        have hkl : ks.length ≤ 1000000000 := by have := HCN2.out; omega
        have hfl : (ks.filter (fun k => !gone names k)).length ≤ ks.length := List.length_filter_le _ _
        have HKX := Aside0.mk hkey
        clear hkey hlk hv hat hrg2 hlt hg2 hs2 ex hxl
        have hhas := HGN.out x
        have HFS := Aside0.mk (filter_snoc names ks x)
        generalize hgx : gone names x = gx at *
        clear hgx
        generalize ks.filter (fun k => !gone names k) = L at *
        cases gx
        · go_wp2_with (first | (at_lookup; refine wpList_lookup_own_unit _ rfl _ _ 103 rfl 105 104 keyed67 Try.underlying103 (zeroUnit _) b2 n2 KD rfl HK3.out _ _ rfl HKX.out ?_) | (at_builtin; refine Kd.R_append Kd.string (w0 := w) w.heap.size rfl (.tmp 32) (.tmp 34) 112 105 (.string ⟨#[]⟩) 16 rfl Try.underlying112 infoLN rfl (by decide) (by omega) u5 (L.map byB) (byB x) [.string (byB x)] (fun k => k ≠ r) (fun _ => False) rfl (by first | (go_simp; done) | (go_simp; rfl)) rfl (fun _ hk => hk.elim) (fun k hk => HF.out k (by simp at hk; omega)) (Kd.R_alloc HN2.out _) (below_alloc HB3.out _) ?aS ?aL ?_; (case aS => exact (below_alloc HB3.out _).size); (case aL => rw [List.length_map]; omega); intro v1 w4 ho hb hg4 hat4; have HO4 := Aside0.mk ho; have HB4 := Aside0.mk hb; have HR4 := Aside0.mk (World.ranges.kept (World.ranges.kept HR2.out (grown_of_below (below_alloc (Below.refl _ _) _) none) (by simp) (by simp)) hg4 (fun e => by have := Kd.R_base HN2.out _ e.symm; have := HBL.out; omega) (fun e => HN2.out.1 _ e.symm rfl)); have HK4 := Aside0.mk (World.ownsMap.kept (World.ownsMap.alloc HK3.out _) hg4 (fun e => by have := Kd.R_base HN2.out _ e.symm; have := HBL2.out; omega)); have HS4 : Aside0 (r < w4.heap.size) := ⟨Nat.lt_of_lt_of_le HS2.out (Nat.le_trans (by simp) hg4.size)⟩; clear ho hb hg4 hat4))
          go_roundw
          case rel => exact ⟨_, cnt2, ks ++ [x], HR4, ⟨by rw [List.length_append]; exact HCN2.out⟩, ⟨by rw [HFS.out, if_neg (by simp), List.map_append]; exact HO4.out⟩, HS4, HC2, HK4, HB4⟩
          case measure => rw [HR4.out.left_eq, HR.out.left_eq]; exact HLT.out
        · go_wp2_with (at_lookup; refine wpList_lookup_own_unit _ rfl _ _ 103 rfl 105 104 keyed67 Try.underlying103 (zeroUnit _) b2 n2 KD rfl HK3.out _ _ rfl HKX.out ?_)
          go_roundw
          case rel => exact ⟨_, cnt2, ks ++ [x], ⟨World.ranges.kept HR2.out (grown_of_below (below_alloc (Below.refl _ _) _) none) (by simp) (by simp)⟩, ⟨by rw [List.length_append]; exact HCN2.out⟩, ⟨by rw [HFS.out, if_pos rfl, List.append_nil]; exact Kd.R_alloc HN2.out _⟩, ⟨Nat.lt_of_lt_of_le HS2.out (by simp)⟩, HC2, ⟨World.ownsMap.alloc HK3.out _⟩, ⟨below_alloc HB3.out _⟩⟩
          case measure => rw [(World.ranges.kept HR2.out (grown_of_below (below_alloc (Below.refl _ _) _) none) (by simp) (by simp)).left_eq, HR.out.left_eq]; exact HLT.out
theorem signw_is (l : List S26) (names : List ByteArray) (ks : List (List UInt8)) (h : ks.Perm (strKeys (mset l))) :
    sumL (mset l) (srt (ks.filter (fun k => !gone names k))) = printV (((setGo (l.map conv) []).filter (keepN names)).map unconv) := by
  rw [sum_print]
  congr 1
  rw [keys_is] at h
  have h2 := h.filter (fun k => !gone names k)
  rw [List.filter_map] at h2
  have hp : (ks.filter (fun k => !gone names k)).Perm (((setGo (l.map conv) []).filter (keepN names)).map nm) := h2
  have e1 : srtL (ks.filter (fun k => !gone names k)) = srtL (((setGo (l.map conv) []).filter (keepN names)).map nm) := mergeSort_of_perm hp
  unfold srt
  rw [e1, srtL_sorted _ (List.Pairwise.filter _ (setGo_sorted _)), List.map_map, List.map_map]
  exact List.map_congr_left fun q hq => pair_val l q (List.mem_filter.1 hq).1
def impl_SignatureWithout.f (l0 : List (S26)) (l1 : List ByteArray) : Option (Int) := if l0.length ≤ 300000000 ∧ l1.length ≤ 300000000 ∧ shortPairs l0 ∧ (∀ s ∈ l1, s.size ≤ 140737488355328) then some (printV (((setGo (l0.map conv) []).filter (keepN l1)).map unconv)) else none
set_option maxRecDepth 100000 in
set_option maxHeartbeats 1600000 in
theorem impl_SignatureWithout.calls (A0 : Option Addr) (c0 : Nat) (l0 : List (S26)) (A1 : Option Addr) (c1 : Nat) (l1 : List ByteArray) (r : Int) (w : World) (hr0 : Kd.C k26 w A0 l0.length l0) (hc0 : l0.length ≤ c0) (hr1 : Kd.C Kd.string w A1 l1.length l1) (_hc1 : l1.length ≤ c1) (h : impl_SignatureWithout.f l0 l1 = some r) :
    Calls Try.prog 52 #[.slice A0 l0.length c0, .slice A1 l1.length c1] w fun e w' => e = .returned (.int .u64 r) ∧ Below w.heap.size w w' := by
  unfold impl_SignatureWithout.f at h
  split at h
  case isFalse => cases h
  rename_i hh
  obtain ⟨hl0, hl1, hs0, hs1⟩ := hh
  obtain rfl := Option.some.inj h
  clear h
  have HR0 := Aside0.mk hr0
  have HR1 := Aside0.mk hr1
  have HS0 := Aside0.mk hs0
  have HSH : Aside0 (∀ s ∈ l1, s.size ≤ maxLen) := ⟨fun s hs => by have := hs1 s hs; unfold maxLen; omega⟩
  clear hr0 hr1 hs0 hs1
  have hmm := @run_makeMap Try.prog
  have HB := Aside0.mk (below_alloc (Below.refl w.heap.size w) (.map #[] 0))
  have HM : Aside0 ((w.alloc (.map #[] 0)).ownsMap Try.prog 105 (unitElem (H := Unit)) w.heap.size 0 (keyset [])) := ⟨World.ownsMap_made _ _ _ _⟩
  go_enter Try.func52, Try.ntmps52
  go_wp2
  go_loopw [7, 11] (fun _ v11 wx => ∃ x : Int, 0 ≤ x ∧ x ≤ (l1.length : Int) ∧ v11 = .int .i64 x ∧ Aside0 (wx.ownsMap Try.prog 105 (unitElem (H := Unit)) w.heap.size x.toNat (keyset (l1.take x.toNat))) ∧ Aside0 (Below w.heap.size w wx)) (fun _ v11 _ => ((l1.length : Int) - intOf v11).toNat)
  case atStart => exact ⟨0, by omega, by omega, rfl, by simpa using HM, HB⟩
  case round =>
    obtain ⟨x, hx, hxl, rfl, HK, HX⟩ := hrel
    by_cases hlt : x < (l1.length : Int)
    · obtain ⟨ad, e1, hx0⟩ := Kd.at_string (Kd.C_below HR1.out HX.out) x hx hlt
      cases e1
      have hp := eq_true hx
      have hq := eq_true hlt
      have hmt := rd_memS l1 x hx hlt
      generalize rdOf ByteArray.empty l1 x = s at *
      have hss := HSH.out s hmt.1
      have hst := Aside0.mk hmt.2
      have HKY : Aside0 (keyOf Try.prog 105 (.string s) = some (.string s.data.toList)) := ⟨WideMaps.keyOf_string_mk Try.underlying105 hss⟩
      clear hmt hss
      go_wp2_with (at_mapUpdate; refine wpList_mapUpdate_own _ rfl _ _ _ 103 rfl 105 104 keyed67 Try.underlying103 unitElem w.heap.size x.toNat (keyset (l1.take x.toNat)) rfl HK.out (by unfold maxLen; omega) _ _ _ rfl rfl HKY.out _ [] unitElem_mk ?_; intro w1 hown1 hgrow1; have HK2 := Aside0.mk hown1; have HX2 := Aside0.mk (HX.out.grown hgrow1 HX.out.size (fun j hj => by cases hj; exact Nat.le_refl _)); clear hown1 hgrow1)
      go_roundw
      case rel => exact ⟨x + 1, by omega, by omega, by go_simp, ⟨by rw [hst.out, ← keyset_snoc]; have e : (x + 1).toNat = x.toNat + 1 := by omega
                                                                    rw [e]; exact HK2.out⟩, HX2⟩
      case measure => simp [intOf]; omega
    · have hxe : x = (l1.length : Int) := by omega
      subst hxe
      have HK0 := HK.out
      rw [Int.toNat_natCast, List.take_length] at HK0
      have HKA := Aside0.mk HK0
      have HKB : Aside0 (w.heap.size < wr.heap.size) := ⟨World.ownsMap.lt HK0⟩
      clear HK0
      go_wp2_with fail
      go_enter Try.func83, Try.ntmps83
      go_wp2_with fail
      refine (labelSet_calls _ _ _ _ (Kd.C_below HR0.out HX.out) hc0 (by omega) HS0.out).mono ?_
      rintro e w1 ⟨b1, rfl, hb1, ho1, hB1⟩
      have HO1 := Aside0.mk ho1
      have HB1 := Aside0.mk (below_step HX.out hB1)
      have HKA1 := Aside0.mk (World.ownsMap.kept HKA.out (grown_of_below hB1 none) (by simp))
      clear hb1 ho1 hB1
      go_wp2_with fail
      refine (signw_calls _ _ _ _ _ _ l1 _ HO1.out (by have := size_mset l0; omega) HKA1.out (fun x => has_keyset l1 x)).mono ?_
      rintro e w2 ⟨ks, rfl, hp, hb2⟩
      have HB2 := Aside0.mk (below_step HB1.out hb2)
      have HP := Aside0.mk (signw_is l0 l1 ks hp)
      clear hp hb2
      go_wp2
      go_ret
      exact ⟨by rw [← HP.out]; rfl, HB2.out⟩
end Go.Proofs.Ytikhlolhodgegaa.Q
