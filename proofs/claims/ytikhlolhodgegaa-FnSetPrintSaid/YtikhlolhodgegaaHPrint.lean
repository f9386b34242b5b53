/- The fingerprint of a set of labels and the signature of a map of strings. No condition beyond the lengths named. -/
import Derived.Test.YtikhlolhodgegaaHKv1
import Derived.Test.YtikhlolhodgegaaHSortN
import Derived.Test.YtikhlolhodgegaaHFnv
set_option linter.unusedVariables false
set_option linter.unusedSimpArgs false
namespace Go.Proofs.Ytikhlolhodgegaa.Q
open Go.RowKit Go.Proofs.YtikhlolhodgegaaW.PrintWords Go.Proofs.YtikhlolhodgegaaW.PrintLast Go.Proofs.YtikhlolhodgegaaW.PrintMore
open Go.Maps (Keyed string_keyed)
open Go.Proofs (encStr)
attribute [local go_sem] max2_int min2_int max_two min_two max_three min_three max_four min_four
def sumP (D : DataW Unit) (h : Int) (s : ByteArray) : Int := fnvB (fnvS (fnvB (fnvS h s) 255) (valD D s)) 255
def sumL (D : DataW Unit) (ns : List ByteArray) : Int := ns.foldl (sumP D) 14695981039346656037
theorem hashAddP_calls (h : Int) (s : ByteArray) (w : World) (hs : s.size ≤ 9223372036854775807) : Calls Try.prog 95 #[.int .u64 h, .string s] w fun e w' => e = .returned (.int .u64 (fnvS h s)) ∧ Drawn0 w w' :=
  model_hashAdd.calls _ _ _ _ _ (hashAdd_is h s hs)
theorem infoLN : (Try.prog.info? 105).map (fun i => (i.zero, i.size, i.bytes)) = some (some (.string ⟨#[]⟩), 1, 16) := by kernel_rfl
theorem keysN_empty {w : World} {b n : Nat} {D : DataW Unit} (h : OwnsSet w b n D) (hz : Maps.size D = 0) : strKeys D = [] := by
  obtain ⟨es, rfl, _⟩ := World.ownsMap.entries h keyed67
  cases es with
  | nil => rfl
  | cons a l => simp [Maps.size_eq] at hz
theorem keysK_empty {w : World} {b n : Nat} {D : DataW Unit} (h : OwnsKv w b n D) (hz : Maps.size D = 0) : strKeys D = [] := by
  obtain ⟨es, rfl, _⟩ := World.ownsMap.entries h keyedS
  cases es with
  | nil => rfl
  | cons a l => simp [Maps.size_eq] at hz
theorem sum_empty (D : DataW Unit) : sumL D (srt []) = 14695981039346656037 := by simp [sumL, srt, srtL]
set_option maxRecDepth 100000 in
set_option maxHeartbeats 1600000 in
theorem print_calls (b n : Nat) (D : DataW Unit) (w : World) (hown : OwnsSet w b n D) (hsz : Maps.size D ≤ 1000000000) :
    Calls Try.prog 93 #[.map (some b)] w fun e w' => ∃ ks : List (List UInt8), e = .returned (.int .u64 (sumL D (srt ks))) ∧ ks.Perm (strKeys D) ∧ Below w.heap.size w w' := by
  have hbl := World.ownsMap.lt hown
  have HO := Aside0.mk hown
  have HBL := Aside0.mk hbl
  clear hown hbl
  have HB := Aside0.mk (Below.refl w.heap.size w)
  obtain ⟨iS, hiS, hzS, hsS, hbS⟩ := info_parts infoLN
  by_cases hz : Maps.size D = 0
  · have hz1 : (((Maps.size D : Nat) : Int) == 0) = true := beq_iff_eq.2 (by omega)
    have hz2 : (Maps.size D == 0) = true := beq_iff_eq.2 hz
    have HZ := Aside0.mk hz
    clear hz
    go_enter Try.func93, Try.ntmps93
    go_wp2_with (at_len; refine wpList_len_own _ rfl _ 65 rfl 105 110 Try.underlying65 _ b n _ rfl HO.out ?_)
    go_ret
    exact ⟨[], by rw [sum_empty]; rfl, by rw [keysN_empty HO.out HZ.out], HB.out⟩
  · have hz1 : (((Maps.size D : Nat) : Int) == 0) = false := beq_eq_false_iff_ne.2 (by omega)
    have hz2 : (Maps.size D == 0) = false := beq_eq_false_iff_ne.2 hz
    have HZ := Aside0.mk hz
    clear hz
    go_enter Try.func93, Try.ntmps93
    go_wp2_with (first
      | (at_len; refine wpList_len_own _ rfl _ 65 rfl 105 110 Try.underlying65 _ b n _ rfl HO.out ?_)
      | (at_make; refine wpList_make_own _ rfl _ _ 112 rfl w.heap.size 105 iS _ 1 Try.underlying112 hiS hzS hsS .i64 .i64 _ (Maps.size D) rfl rfl rfl (by rw [hbS]; omega) (by unfold maxLen; omega) (Nat.le_refl _) ?_; intro w2 ho2 hg2; have HK2 := Aside0.mk ho2; have HB2 := Aside0.mk (HB.out.grown hg2 HB.out.size (fun j hj => by cases hj)); have HO2 := Aside0.mk (own_R_below HO.out HB2.out); have HL2 : Aside0 (w.heap.size < w2.heap.size) := ⟨(World.ownsRow.lt ho2 _ rfl).2⟩; clear ho2 hg2)
      | (at_range; refine wpList_range_own _ rfl _ 65 rfl 105 110 keyed67 Try.underlying65 _ b n _ rfl HO2.out ?_; intro w0 hrg0 hg0 hs0; have HRG := Aside0.mk hrg0; have HG0 := Aside0.mk hg0; have HS0 : Aside0 (w2.heap.size < w0.heap.size) := ⟨by omega⟩; clear hrg0 hg0 hs0))
    go_frame
    generalize hr : w2.heap.size = r at *
    clear hr
    go_loopw [3] (fun v3 wr => ∃ (left : Lit → Bool) (cnt : Nat) (ks : List (List UInt8)), Aside0 (wr.ranges Try.prog 105 (plainElem Try.prog 110) b r n D left cnt) ∧ Aside0 (ks.length + cnt ≤ Maps.size D) ∧ Aside0 (Kd.R Kd.string 105 wr w.heap.size (fun k => k ≠ r) v3 (ks.map byB)) ∧ Aside0 (r < wr.heap.size) ∧ Aside0 (Collected D left ks) ∧ Aside0 (Below w.heap.size w wr)) (fun _ wr => wr.rangeLeft b r)
    case atStart => exact ⟨_, _, [], HRG, ⟨by simp⟩, ⟨R_made Kd.string (World.ownsRow.kept HK2.out HG0.out (.inr (by simp [Value.ownBlock]))) (by have := HL2.out; omega)⟩, HS0, ⟨Collected.start D⟩, ⟨HB2.out.grown HG0.out HB2.out.size (fun j hj => by cases hj)⟩⟩
    case round =>
      obtain ⟨left, cnt, ks, HR, HCN, HN, HS, HC, HB⟩ := hrel
      go_wp2_with (at_next; refine wpList_next_ranges _ rfl _ rfl 105 keyed67 (plainElem Try.prog 110) encStr Value.string (fun key kl hk => by obtain ⟨x, hx, _⟩ := Maps.keyOf_str Try.underlying105 hk; exact ⟨x, hx⟩) (fun v y hv => by obtain ⟨c, rfl, _⟩ := plainElem_string_inv Try.underlying110 hv; exact ⟨c, rfl⟩) b r n _ _ _ rfl HR.out ?_ ?_)
      · intro hc0 hl0
        have HL := Aside0.mk hl0
        clear hc0 hl0
        have HP := Aside0.mk (HC.out.perm HO.out keyed67 Try.underlying105 HL.out)
        have hl : ks.length ≤ 1000000000 := by rw [perm_len HP.out HO.out]; exact hsz
        have HLE : Aside0 (∀ s ∈ srt ks, s.size ≤ maxLen) := ⟨fun s hs => by
          have := strKeys_le HO.out Try.underlying105 _ (HP.out.mem_iff.1 (srt_mem hs))
          rwa [Array.length_toList] at this⟩
        go_wp2_with (go_at_call 74; refine (sortN_calls u3 ks w.heap.size _ (Kd.R_mono HN.out (fun _ _ => trivial)) (by omega)).mono ?_; rintro e w4 ⟨rfl, hr, hg⟩; have HB4 := Aside0.mk (HB.out.grown hg HB.out.size (fun j hj => Kd.R_base HN.out _ hj)); obtain ⟨A, c, e3, hc3, hC⟩ := Kd.R_reads hr; subst e3; have HNC := Aside0.mk hC; clear hr hg hC)
        have hll : ((srt ks).length : Int) ≤ 1000000000 := by rw [srt_len]; omega
        generalize hns : srt ks = ns at *
        have HX := Aside0.mk (Drawn0.refl w4)
        go_wp2_with (go_at_call 94; refine (model_hashNew.calls 14695981039346656037 _ rfl).mono ?_; rintro e w5 ⟨rfl, hd⟩; have HY := Aside0.mk (drawn_trans HX.out hd); clear HX hd; have HX := HY; clear HY)
        go_loopw [5, 30] (fun v5 v30 wx => ∃ x : Int, 0 ≤ x ∧ x ≤ (ns.length : Int) ∧ v30 = .int .i64 x ∧ v5 = .int .u64 ((ns.take x.toNat).foldl (sumP D) 14695981039346656037) ∧ Aside0 (Drawn0 w4 wx)) (fun _ v30 _ => ((ns.length : Int) - intOf v30).toNat)
        case atStart => exact ⟨0, by omega, by omega, rfl, rfl, HX⟩
        case round =>
          obtain ⟨x, hx, hxl, rfl, rfl, HX⟩ := hrel
          by_cases hlt : x < (ns.length : Int)
          · obtain ⟨ad, e1, hx0⟩ := Kd.at_string (Kd.C_below HNC.out HX.out.below) x hx hlt
            cases e1
            have hmt := rd_memS ns x hx hlt
            have HOW := Aside0.mk (own_R_below HO.out (HB4.out.trans (HX.out.below.mono HB4.out.size)))
            generalize rdOf ByteArray.empty ns x = s at *
            have hss := HLE.out s hmt.1
            have hst := Aside0.mk hmt.2
            have HKY : Aside0 (keyOf Try.prog 105 (.string s) = some (.string s.data.toList)) := ⟨WideMaps.keyOf_string_mk Try.underlying105 hss⟩
            have HS1 : Aside0 (s.size ≤ 9223372036854775807) := ⟨by unfold maxLen at hss; omega⟩
            have hp := eq_true hx
            have hq := eq_true hlt
            clear hmt hss
            generalize hh0 : (ns.take x.toNat).foldl (sumP D) 14695981039346656037 = h0 at *
            have HH0 := Aside0.mk hh0
            clear hh0
            have HZ0 := Aside0.mk (Drawn0.refl wr)
            go_wp2_with (first | (go_at_call 96; refine (model_hashAddByte.calls _ _ _ _ (hashAddByte_is _ _)).mono ?_; rintro e w5 ⟨rfl, hd⟩; have HY := Aside0.mk (drawn_trans HZ0.out hd); clear HZ0 hd; have HZ0 := HY; clear HY) | (go_at_call 95; refine (hashAddP_calls _ _ _ (by first | exact HS1.out | exact HSL.out)).mono ?_; rintro e w4 ⟨rfl, hd⟩; have HY := Aside0.mk (drawn_trans HZ0.out hd); clear HZ0 hd; have HZ0 := HY; clear HY) | (at_lookup; refine lookup_str _ rfl _ _ 65 rfl 105 110 keyed67 Try.underlying65 Try.underlying110 (zero68 _) b n D rfl (own_R_below HOW.out HZ0.out.below) _ s rfl HKY.out ?_; intro s2 hs2 hsl2; have HSV := Aside0.mk hs2; have HSL : Aside0 (s2.size ≤ 9223372036854775807) := ⟨by unfold maxLen at hsl2; omega⟩; clear hs2 hsl2))
            go_roundw
            case rel => exact ⟨x + 1, by omega, by omega, by go_simp, by rw [hst.out, List.foldl_append, HH0.out, HSV.out]; rfl, ⟨drawn_trans HX.out HZ0.out⟩⟩
            case measure => simp [intOf]; omega
          · have hxe : x = (ns.length : Int) := by omega
            subst hxe
            rw [Int.toNat_natCast, List.take_length]
            go_wp2
            go_ret
            exact ⟨ks, by rw [hns]; rfl, HP.out, HB4.out.trans (HX.out.below.mono HB4.out.size)⟩
      · intro x c kl yd yp w3 cnt2 hkey hlk hv hat hrg2 hlt hg2 hs2 hen
        obtain ⟨x', ex, rfl, hxl⟩ := Maps.keyOf_str Try.underlying105 hkey
        obtain rfl : x = x' := encStr_inj ex
        have HC2 := Aside0.mk (HC.out.step hlk hat)
        have HR2 := Aside0.mk hrg2
        have HN2 := Aside0.mk (Kd.R_grown HN.out hg2 (fun k hk e => hk (by injection e)))
        have HB3 := Aside0.mk (HB.out.grown hg2 HB.out.size (fun j hj => by cases hj; exact Nat.le_of_lt HL2.out))
        have HS2 : Aside0 (r < w3.heap.size) := ⟨by rw [hs2]; exact HS.out⟩
        have HF : Aside0 (∀ k, w3.heap.size ≤ k → k ≠ r) := ⟨fun k hk => by have := HS2.out; omega⟩
        have HLT := Aside0.mk hlt
        have HCN2 : Aside0 (ks.length + 1 + cnt2 ≤ Maps.size D) := ⟨by have := HCN.out; omega⟩
        have hkl : ks.length ≤ 1000000000 := by have := HCN2.out; omega
        clear hkey hlk hv hat hrg2 hlt hg2 hs2 ex hxl
        go_wp2_with (at_builtin; refine Kd.R_append Kd.string (w0 := w) w.heap.size rfl (.tmp 20) (.tmp 22) 112 105 (.string ⟨#[]⟩) 16 rfl Try.underlying112 infoLN rfl (by decide) (by omega) u3 (ks.map byB) (byB x) [.string (byB x)] (fun k => k ≠ r) (fun _ => False) rfl (by first | (go_simp; done) | (go_simp; rfl)) rfl (fun _ hk => hk.elim) HF.out HN2.out HB3.out ?aS ?aL ?_; (case aS => exact HB3.out.size); (case aL => rw [List.length_map]; omega); intro v1 w4 ho hb hg4 hat4; have HO4 := Aside0.mk ho; have HB4 := Aside0.mk hb; have HG4 := Aside0.mk hg4; clear ho hb hg4 hat4)
        have HR4 := Aside0.mk (World.ranges.kept HR2.out HG4.out (fun e => by have := Kd.R_base HN2.out _ e.symm; have := HBL.out; omega) (fun e => HN2.out.1 _ e.symm rfl))
        go_roundw
        case rel => exact ⟨_, cnt2, ks ++ [x], HR4, ⟨by rw [List.length_append]; exact HCN2.out⟩, by simpa using HO4, ⟨Nat.lt_of_lt_of_le HS2.out HG4.out.size⟩, HC2, HB4⟩
        case measure => rw [HR4.out.left_eq, HR.out.left_eq]; exact HLT.out
set_option maxRecDepth 100000 in
set_option maxHeartbeats 1600000 in
theorem sign_calls (b n : Nat) (D : DataW Unit) (w : World) (hown : OwnsKv w b n D) (hsz : Maps.size D ≤ 1000000000) :
    Calls Try.prog 80 #[.map (some b)] w fun e w' => ∃ ks : List (List UInt8), e = .returned (.int .u64 (sumL D (srt ks))) ∧ ks.Perm (strKeys D) ∧ Below w.heap.size w w' := by
  have hbl := World.ownsMap.lt hown
  have HO := Aside0.mk hown
  have HBL := Aside0.mk hbl
  clear hown hbl
  have HB := Aside0.mk (Below.refl w.heap.size w)
  obtain ⟨iS, hiS, hzS, hsS, hbS⟩ := info_parts infoStr
  by_cases hz : Maps.size D = 0
  · have hz1 : (((Maps.size D : Nat) : Int) == 0) = true := beq_iff_eq.2 (by omega)
    have hz2 : (Maps.size D == 0) = true := beq_iff_eq.2 hz
    have HZ := Aside0.mk hz
    clear hz
    go_enter Try.func80, Try.ntmps80
    go_wp2_with (at_len; refine wpList_len_own _ rfl _ 83 rfl 9 9 Try.underlying83 _ b n _ rfl HO.out ?_)
    go_ret
    exact ⟨[], by rw [sum_empty]; rfl, by rw [keysK_empty HO.out HZ.out], HB.out⟩
  · have hz1 : (((Maps.size D : Nat) : Int) == 0) = false := beq_eq_false_iff_ne.2 (by omega)
    have hz2 : (Maps.size D == 0) = false := beq_eq_false_iff_ne.2 hz
    have HZ := Aside0.mk hz
    clear hz
    go_enter Try.func80, Try.ntmps80
    go_wp2_with (first
      | (at_len; refine wpList_len_own _ rfl _ 83 rfl 9 9 Try.underlying83 _ b n _ rfl HO.out ?_)
      | (at_make; refine wpList_make_own _ rfl _ _ 38 rfl w.heap.size 9 iS _ 1 Try.underlying38 hiS hzS hsS .i64 .i64 _ (Maps.size D) rfl rfl rfl (by rw [hbS]; omega) (by unfold maxLen; omega) (Nat.le_refl _) ?_; intro w2 ho2 hg2; have HK2 := Aside0.mk ho2; have HB2 := Aside0.mk (HB.out.grown hg2 HB.out.size (fun j hj => by cases hj)); have HO2 := Aside0.mk (own_K_below HO.out HB2.out); have HL2 : Aside0 (w.heap.size < w2.heap.size) := ⟨(World.ownsRow.lt ho2 _ rfl).2⟩; clear ho2 hg2)
      | (at_range; refine wpList_range_own _ rfl _ 83 rfl 9 9 keyedS Try.underlying83 _ b n _ rfl HO2.out ?_; intro w0 hrg0 hg0 hs0; have HRG := Aside0.mk hrg0; have HG0 := Aside0.mk hg0; have HS0 : Aside0 (w2.heap.size < w0.heap.size) := ⟨by omega⟩; clear hrg0 hg0 hs0))
    go_frame
    generalize hr : w2.heap.size = r at *
    clear hr
    go_loopw [3] (fun v3 wr => ∃ (left : Lit → Bool) (cnt : Nat) (ks : List (List UInt8)), Aside0 (wr.ranges Try.prog 9 (plainElem Try.prog 9) b r n D left cnt) ∧ Aside0 (ks.length + cnt ≤ Maps.size D) ∧ Aside0 (Kd.R Kd.string 9 wr w.heap.size (fun k => k ≠ r) v3 (ks.map byB)) ∧ Aside0 (r < wr.heap.size) ∧ Aside0 (Collected D left ks) ∧ Aside0 (Below w.heap.size w wr)) (fun _ wr => wr.rangeLeft b r)
    case atStart => exact ⟨_, _, [], HRG, ⟨by simp⟩, ⟨R_made Kd.string (World.ownsRow.kept HK2.out HG0.out (.inr (by simp [Value.ownBlock]))) (by have := HL2.out; omega)⟩, HS0, ⟨Collected.start D⟩, ⟨HB2.out.grown HG0.out HB2.out.size (fun j hj => by cases hj)⟩⟩
    case round =>
      obtain ⟨left, cnt, ks, HR, HCN, HN, HS, HC, HB⟩ := hrel
      go_wp2_with (at_next; refine wpList_next_ranges _ rfl _ rfl 9 keyedS (plainElem Try.prog 9) encStr Value.string (fun key kl hk => by obtain ⟨x, hx, _⟩ := Maps.keyOf_str Try.underlying9 hk; exact ⟨x, hx⟩) (fun v y hv => by obtain ⟨c, rfl, _⟩ := plainElem_string_inv Try.underlying9 hv; exact ⟨c, rfl⟩) b r n _ _ _ rfl HR.out ?_ ?_)
      · intro hc0 hl0
        have HL := Aside0.mk hl0
        clear hc0 hl0
        have HP := Aside0.mk (HC.out.perm HO.out keyedS Try.underlying9 HL.out)
        have hl : ks.length ≤ 1000000000 := by rw [permK_len HP.out HO.out]; exact hsz
        have HLE : Aside0 (∀ s ∈ srt ks, s.size ≤ maxLen) := ⟨fun s hs => by
          have := strKeys_le HO.out Try.underlying9 _ (HP.out.mem_iff.1 (srt_mem hs))
          rwa [Array.length_toList] at this⟩
        go_wp2_with (go_at_call 84; refine (sort_calls u3 ks w.heap.size _ (Kd.R_mono HN.out (fun _ _ => trivial)) (by omega)).mono ?_; rintro e w4 ⟨rfl, hr, hg⟩; have HB4 := Aside0.mk (HB.out.grown hg HB.out.size (fun j hj => Kd.R_base HN.out _ hj)); obtain ⟨A, c, e3, hc3, hC⟩ := Kd.R_reads hr; subst e3; have HNC := Aside0.mk hC; clear hr hg hC)
        have hll : ((srt ks).length : Int) ≤ 1000000000 := by rw [srt_len]; omega
        generalize hns : srt ks = ns at *
        have HX := Aside0.mk (Drawn0.refl w4)
        go_wp2_with (go_at_call 94; refine (model_hashNew.calls 14695981039346656037 _ rfl).mono ?_; rintro e w5 ⟨rfl, hd⟩; have HY := Aside0.mk (drawn_trans HX.out hd); clear HX hd; have HX := HY; clear HY)
        go_loopw [5, 29] (fun v5 v29 wx => ∃ x : Int, 0 ≤ x ∧ x ≤ (ns.length : Int) ∧ v29 = .int .i64 x ∧ v5 = .int .u64 ((ns.take x.toNat).foldl (sumP D) 14695981039346656037) ∧ Aside0 (Drawn0 w4 wx)) (fun _ v29 _ => ((ns.length : Int) - intOf v29).toNat)
        case atStart => exact ⟨0, by omega, by omega, rfl, rfl, HX⟩
        case round =>
          obtain ⟨x, hx, hxl, rfl, rfl, HX⟩ := hrel
          by_cases hlt : x < (ns.length : Int)
          · obtain ⟨ad, e1, hx0⟩ := Kd.at_string (Kd.C_below HNC.out HX.out.below) x hx hlt
            cases e1
            have hmt := rd_memS ns x hx hlt
            have HOW := Aside0.mk (own_K_below HO.out (HB4.out.trans (HX.out.below.mono HB4.out.size)))
            generalize rdOf ByteArray.empty ns x = s at *
            have hss := HLE.out s hmt.1
            have hst := Aside0.mk hmt.2
            have HKY : Aside0 (keyOf Try.prog 9 (.string s) = some (.string s.data.toList)) := ⟨WideMaps.keyOf_string_mk Try.underlying9 hss⟩
            have HS1 : Aside0 (s.size ≤ 9223372036854775807) := ⟨by unfold maxLen at hss; omega⟩
            have hp := eq_true hx
            have hq := eq_true hlt
            clear hmt hss
            generalize hh0 : (ns.take x.toNat).foldl (sumP D) 14695981039346656037 = h0 at *
            have HH0 := Aside0.mk hh0
            clear hh0
            have HZ0 := Aside0.mk (Drawn0.refl wr)
            go_wp2_with (first | (go_at_call 96; refine (model_hashAddByte.calls _ _ _ _ (hashAddByte_is _ _)).mono ?_; rintro e w5 ⟨rfl, hd⟩; have HY := Aside0.mk (drawn_trans HZ0.out hd); clear HZ0 hd; have HZ0 := HY; clear HY) | (go_at_call 95; refine (hashAddP_calls _ _ _ (by first | exact HS1.out | exact HSL.out)).mono ?_; rintro e w4 ⟨rfl, hd⟩; have HY := Aside0.mk (drawn_trans HZ0.out hd); clear HZ0 hd; have HZ0 := HY; clear HY) | (at_lookup; refine lookup_str _ rfl _ _ 83 rfl 9 9 keyedS Try.underlying83 Try.underlying9 (zeroStr _) b n D rfl (own_K_below HOW.out HZ0.out.below) _ s rfl HKY.out ?_; intro s2 hs2 hsl2; have HSV := Aside0.mk hs2; have HSL : Aside0 (s2.size ≤ 9223372036854775807) := ⟨by unfold maxLen at hsl2; omega⟩; clear hs2 hsl2))
            go_roundw
            case rel => exact ⟨x + 1, by omega, by omega, by go_simp, by rw [hst.out, List.foldl_append, HH0.out, HSV.out]; rfl, ⟨drawn_trans HX.out HZ0.out⟩⟩
            case measure => simp [intOf]; omega
          · have hxe : x = (ns.length : Int) := by omega
            subst hxe
            rw [Int.toNat_natCast, List.take_length]
            go_wp2
            go_ret
            exact ⟨ks, by rw [hns]; rfl, HP.out, HB4.out.trans (HX.out.below.mono HB4.out.size)⟩
      · intro x c kl yd yp w3 cnt2 hkey hlk hv hat hrg2 hlt hg2 hs2 hen
        obtain ⟨x', ex, rfl, hxl⟩ := Maps.keyOf_str Try.underlying9 hkey
        obtain rfl : x = x' := encStr_inj ex
        have HC2 := Aside0.mk (HC.out.step hlk hat)
        have HR2 := Aside0.mk hrg2
        have HN2 := Aside0.mk (Kd.R_grown HN.out hg2 (fun k hk e => hk (by injection e)))
        have HB3 := Aside0.mk (HB.out.grown hg2 HB.out.size (fun j hj => by cases hj; exact Nat.le_of_lt HL2.out))
        have HS2 : Aside0 (r < w3.heap.size) := ⟨by rw [hs2]; exact HS.out⟩
        have HF : Aside0 (∀ k, w3.heap.size ≤ k → k ≠ r) := ⟨fun k hk => by have := HS2.out; omega⟩
        have HLT := Aside0.mk hlt
        have HCN2 : Aside0 (ks.length + 1 + cnt2 ≤ Maps.size D) := ⟨by have := HCN.out; omega⟩
        have hkl : ks.length ≤ 1000000000 := by have := HCN2.out; omega
        clear hkey hlk hv hat hrg2 hlt hg2 hs2 ex hxl
        go_wp2_with (at_builtin; refine Kd.R_append Kd.string (w0 := w) w.heap.size rfl (.tmp 20) (.tmp 22) 38 9 (.string ⟨#[]⟩) 16 rfl Try.underlying38 infoStr rfl (by decide) (by omega) u3 (ks.map byB) (byB x) [.string (byB x)] (fun k => k ≠ r) (fun _ => False) rfl (by first | (go_simp; done) | (go_simp; rfl)) rfl (fun _ hk => hk.elim) HF.out HN2.out HB3.out ?aS ?aL ?_; (case aS => exact HB3.out.size); (case aL => rw [List.length_map]; omega); intro v1 w4 ho hb hg4 hat4; have HO4 := Aside0.mk ho; have HB4 := Aside0.mk hb; have HG4 := Aside0.mk hg4; clear ho hb hg4 hat4)
        have HR4 := Aside0.mk (World.ranges.kept HR2.out HG4.out (fun e => by have := Kd.R_base HN2.out _ e.symm; have := HBL.out; omega) (fun e => HN2.out.1 _ e.symm rfl))
        go_roundw
        case rel => exact ⟨_, cnt2, ks ++ [x], HR4, ⟨by rw [List.length_append]; exact HCN2.out⟩, by simpa using HO4, ⟨Nat.lt_of_lt_of_le HS2.out HG4.out.size⟩, HC2, HB4⟩
        case measure => rw [HR4.out.left_eq, HR.out.left_eq]; exact HLT.out
end Go.Proofs.Ytikhlolhodgegaa.Q
