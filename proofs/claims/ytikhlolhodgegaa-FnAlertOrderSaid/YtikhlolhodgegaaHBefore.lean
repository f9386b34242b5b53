/- The order of sets of labels: what LabelSet.Before and impl.SetBefore return. No condition beyond the lengths named. -/
import Derived.Test.YtikhlolhodgegaaHPr1
set_option linter.unusedVariables false
set_option linter.unusedSimpArgs false
namespace Go.Proofs.Ytikhlolhodgegaa.Q
open Go.RowKit Go.Proofs.YtikhlolhodgegaaW.PrintWords Go.Proofs.YtikhlolhodgegaaW.PrintLast Go.Proofs.YtikhlolhodgegaaW.PrintMore
open Go.Maps (Keyed string_keyed)
open Go.Proofs (encStr)
attribute [local go_sem] max2_int min2_int max_two min_two max_three min_three max_four min_four
def hasD (D : DataW Unit) (s : ByteArray) : Bool := Maps.has D (.string s.data.toList)
def befB (D1 D2 : DataW Unit) : List ByteArray → Bool
  | [] => false
  | s :: r => if hasD D1 s = false then true else if hasD D2 s = false then false else if Op.bytesLess (valD D1 s).toList (valD D2 s).toList = true then true else if strGt (valD D1 s) (valD D2 s) = true then false else befB D1 D2 r
def befV (D1 D2 : DataW Unit) (ns : List ByteArray) : Bool := if Maps.size D1 < Maps.size D2 then true else if Maps.size D2 < Maps.size D1 then false else befB D1 D2 ns
theorem lookup_str_ok {P : Program} (w : World) {ops : Array Oper} {rest : List Oper} {o : Oper} {a : Act} {Q : Exit → Act → World → Prop}
    (hg : o.guard = none) (m x : Operand) (t : TypeId) (hop : o.op = Op.lookup t m x true)
    (k e : TypeId) (K : Keyed P k) (ht : P.underlying t = some (.map k e)) (he : P.underlying e = some .string) (hz : (zeroValue e).run P w = .ok (.string ⟨#[]⟩) w) (b n : Nat) (D : DataW Unit)
    (hm : a.eval m = .map (some b)) (hown : w.ownsMap P k (plainElem P e) b n D) (key : Value) (ks : ByteArray) (hx : a.eval x = key) (hkey : keyOf P k key = some (.string ks.data.toList)) (bb : Bool) (hb : hasD D ks = bb)
    (hK : ∀ s : ByteArray, s = valD D ks → s.size ≤ maxLen → wpList P ops Q rest (a.put o.dst (.tuple #[.string s, .bool bb])) w) :
    wpList P ops Q (o :: rest) a w :=
  wpList_lookup_own_ok w hg m x t hop k e K ht (plainElem P e) hz (.lit (.string [])) [] (plainElem_string he (s := ⟨#[]⟩) (Nat.zero_le _)) b n D hm hown key (.string ks.data.toList) hx hkey (fun v ps hv => by
    obtain ⟨s, rfl, hc, hl⟩ := plainElem_string_inv he hv
    simp only [Prod.mk.injEq] at hc
    unfold hasD at hb
    rw [hb]
    exact hK s (valD_of hc.1) hl)
set_option maxRecDepth 100000 in
set_option maxHeartbeats 1600000 in
theorem before_calls (b1 n1 b2 n2 : Nat) (D1 D2 : DataW Unit) (w : World) (h1 : OwnsSet w b1 n1 D1) (h2 : OwnsSet w b2 n2 D2) (z1 : Maps.size D1 ≤ 1000000000) (z2 : Maps.size D2 ≤ 1000000000) :
    Calls Try.prog 58 #[.map (some b1), .map (some b2)] w fun e w' => ∃ k1 : List (List UInt8), ∃ k2 : List (List UInt8), e = .returned (.bool (befV D1 D2 (srt (k1 ++ k2)))) ∧ k1.Perm (strKeys D1) ∧ k2.Perm (strKeys D2) ∧ Below w.heap.size w w' := by
  have hl1 := World.ownsMap.lt h1
  have hl2 := World.ownsMap.lt h2
  have H1 := Aside0.mk h1
  have H2 := Aside0.mk h2
  have L1 := Aside0.mk hl1
  have L2 := Aside0.mk hl2
  clear h1 h2 hl1 hl2
  have HB := Aside0.mk (Below.refl w.heap.size w)
  obtain ⟨iS, hiS, hzS, hsS, hbS⟩ := info_parts infoLN
  go_enter Try.func58, Try.ntmps58
  by_cases c1 : Maps.size D1 < Maps.size D2
  · have c1i := eq_true (show ((Maps.size D1 : Nat) : Int) < ((Maps.size D2 : Nat) : Int) by omega)
    have C1 := Aside0.mk c1
    have c1n := eq_true c1
    clear c1
    go_wp2_with (first | (at_len; refine wpList_len_own _ rfl _ 65 rfl 105 110 Try.underlying65 _ b1 n1 _ rfl H1.out ?_) | (at_len; refine wpList_len_own _ rfl _ 65 rfl 105 110 Try.underlying65 _ b2 n2 _ rfl H2.out ?_))
    go_ret
    exact ⟨strKeys D1, strKeys D2, by rw [befV, if_pos C1.out]; rfl, List.Perm.refl _, List.Perm.refl _, HB.out⟩
  have c1i := eq_false (show ¬ ((Maps.size D1 : Nat) : Int) < ((Maps.size D2 : Nat) : Int) by omega)
  have C1 := Aside0.mk c1
  have c1n := eq_false c1
  clear c1
  by_cases c2 : Maps.size D2 < Maps.size D1
  · have c2i := eq_true (show ((Maps.size D1 : Nat) : Int) > ((Maps.size D2 : Nat) : Int) by omega)
    have c2j := eq_true (show ((Maps.size D2 : Nat) : Int) < ((Maps.size D1 : Nat) : Int) by omega)
    have C2 := Aside0.mk c2
    have c2n := eq_true c2
    clear c2
    go_wp2_with (first | (at_len; refine wpList_len_own _ rfl _ 65 rfl 105 110 Try.underlying65 _ b1 n1 _ rfl H1.out ?_) | (at_len; refine wpList_len_own _ rfl _ 65 rfl 105 110 Try.underlying65 _ b2 n2 _ rfl H2.out ?_))
    go_ret
    exact ⟨strKeys D1, strKeys D2, by rw [befV, if_neg C1.out, if_pos C2.out]; rfl, List.Perm.refl _, List.Perm.refl _, HB.out⟩
  have c2i := eq_false (show ¬ ((Maps.size D1 : Nat) : Int) > ((Maps.size D2 : Nat) : Int) by omega)
  have c2j := eq_false (show ¬ ((Maps.size D2 : Nat) : Int) < ((Maps.size D1 : Nat) : Int) by omega)
  have C2 := Aside0.mk c2
  have c2n := eq_false c2
  clear c2
  go_wp2_with (first
    | (at_len; refine wpList_len_own _ rfl _ 65 rfl 105 110 Try.underlying65 _ b1 n1 _ rfl H1.out ?_)
    | (at_len; refine wpList_len_own _ rfl _ 65 rfl 105 110 Try.underlying65 _ b2 n2 _ rfl H2.out ?_)
    | (at_make; refine wpList_make_own _ rfl _ _ 112 rfl w.heap.size 105 iS _ 1 Try.underlying112 hiS hzS hsS .i64 .i64 _ (Maps.size D1 + Maps.size D2) rfl rfl (by omega) (by rw [hbS]; omega) (by unfold maxLen; omega) (Nat.le_refl _) ?_; intro w2 ho2 hg2; have HK2 := Aside0.mk ho2; have HB2 := Aside0.mk (HB.out.grown hg2 HB.out.size (fun j hj => by cases hj)); have H12 := Aside0.mk (own_R_below H1.out HB2.out); have HL2 : Aside0 (w.heap.size < w2.heap.size) := ⟨(World.ownsRow.lt ho2 _ rfl).2⟩; clear ho2 hg2)
    | (at_range; refine wpList_range_own _ rfl _ 65 rfl 105 110 keyed67 Try.underlying65 _ b1 n1 _ rfl H12.out ?_; intro w0 hrg0 hg0 hs0; have HRG := Aside0.mk hrg0; have HG0 := Aside0.mk hg0; have HS0 : Aside0 (w2.heap.size < w0.heap.size) := ⟨by omega⟩; clear hrg0 hg0 hs0))
  go_frame
  generalize hr : w2.heap.size = r at *
  clear hr
  go_loopw [5] (fun v5 wr => ∃ (left : Lit → Bool) (cnt : Nat) (ks : List (List UInt8)), Aside0 (wr.ranges Try.prog 105 (plainElem Try.prog 110) b1 r n1 D1 left cnt) ∧ Aside0 (ks.length + cnt ≤ Maps.size D1) ∧ Aside0 (Kd.R Kd.string 105 wr w.heap.size (fun k => k ≠ r) v5 (ks.map byB)) ∧ Aside0 (r < wr.heap.size) ∧ Aside0 (Collected D1 left ks) ∧ Aside0 (Below w.heap.size w wr)) (fun _ wr => wr.rangeLeft b1 r)
  case atStart => exact ⟨_, _, [], HRG, ⟨by simp⟩, ⟨R_made Kd.string (World.ownsRow.kept HK2.out HG0.out (.inr (by simp [Value.ownBlock]))) (by have := HL2.out; omega)⟩, HS0, ⟨Collected.start D1⟩, ⟨HB2.out.grown HG0.out HB2.out.size (fun j hj => by cases hj)⟩⟩
  case round =>
    obtain ⟨left, cnt, ks, HR, HCN, HN, HS, HC, HB⟩ := hrel
    go_wp2_with (at_next; refine wpList_next_ranges _ rfl _ rfl 105 keyed67 (plainElem Try.prog 110) encStr Value.string (fun key kl hk => by obtain ⟨x, hx, _⟩ := Maps.keyOf_str Try.underlying105 hk; exact ⟨x, hx⟩) (fun v y hv => by obtain ⟨c, rfl, _⟩ := plainElem_string_inv Try.underlying110 hv; exact ⟨c, rfl⟩) b1 r n1 _ _ _ rfl HR.out ?_ ?_)
    · intro hc0 hl0
      have HL := Aside0.mk hl0
      clear hc0 hl0
      have HP1 := Aside0.mk (HC.out.perm H1.out keyed67 Try.underlying105 HL.out)
      have hlk : ks.length ≤ 1000000000 := by rw [perm_len HP1.out H1.out]; exact z1
      have HSR := HS
      go_wp2_with (at_range; refine wpList_range_own _ rfl _ 65 rfl 105 110 keyed67 Try.underlying65 _ b2 n2 D2 rfl (own_R_below H2.out HB.out) ?_; intro w5 hrg5 hg5 hs5; have HRG5 := Aside0.mk hrg5; have HN5 := Aside0.mk (Kd.R_mono (Kd.R_bound (Kd.R_mono HN.out (ok' := fun _ => True) (fun _ _ => trivial))) (ok' := fun k => k ≠ wr.heap.size) (fun k hk => by have := hk.2.2.1; omega)); have HN6 := Aside0.mk (Kd.R_grown HN5.out hg5 (fun k hk e => by cases e)); have HB5 := Aside0.mk (HB.out.grown hg5 HB.out.size (fun j hj => by cases hj)); have HS5 : Aside0 (wr.heap.size < w5.heap.size) := ⟨by omega⟩; clear hrg5 hg5 hs5)
      go_frame
      generalize hr2 : wr.heap.size = r2 at *
      clear hr2
      go_loopw [5] (fun v5 wx => ∃ (left : Lit → Bool) (cnt : Nat) (tt : List (List UInt8)), Aside0 (wx.ranges Try.prog 105 (plainElem Try.prog 110) b2 r2 n2 D2 left cnt) ∧ Aside0 (tt.length + cnt ≤ Maps.size D2) ∧ Aside0 (Kd.R Kd.string 105 wx w.heap.size (fun k => k ≠ r2) v5 ((ks ++ tt).map byB)) ∧ Aside0 (r2 < wx.heap.size) ∧ Aside0 (Collected D2 left tt) ∧ Aside0 (Below w.heap.size w wx)) (fun _ wx => wx.rangeLeft b2 r2)
      case atStart => exact ⟨_, _, [], HRG5, ⟨by simp⟩, ⟨by rw [List.append_nil]; exact HN6.out⟩, HS5, ⟨Collected.start D2⟩, HB5⟩
      case round =>
        obtain ⟨left, cnt, tt, HR, HCN, HN, HS, HC, HB⟩ := hrel
        go_wp2_with (at_next; refine wpList_next_ranges _ rfl _ rfl 105 keyed67 (plainElem Try.prog 110) encStr Value.string (fun key kl hk => by obtain ⟨x, hx, _⟩ := Maps.keyOf_str Try.underlying105 hk; exact ⟨x, hx⟩) (fun v y hv => by obtain ⟨c, rfl, _⟩ := plainElem_string_inv Try.underlying110 hv; exact ⟨c, rfl⟩) b2 r2 n2 _ _ _ rfl HR.out ?_ ?_)
        · intro hc0 hl0
          have HL := Aside0.mk hl0
          clear hc0 hl0
          have HP2 := Aside0.mk (HC.out.perm H2.out keyed67 Try.underlying105 HL.out)
          have hlt2 : tt.length ≤ 1000000000 := by rw [perm_len HP2.out H2.out]; exact z2
          have hll0 : (ks ++ tt).length ≤ 2000000000 := by rw [List.length_append]; omega
          have HLE : Aside0 (∀ s ∈ srt (ks ++ tt), s.size ≤ maxLen) := ⟨fun s hs => by
            have hm := srt_mem hs
            rcases List.mem_append.1 hm with h | h
            · have := strKeys_le H1.out Try.underlying105 _ (HP1.out.mem_iff.1 h)
              rwa [Array.length_toList] at this
            · have := strKeys_le H2.out Try.underlying105 _ (HP2.out.mem_iff.1 h)
              rwa [Array.length_toList] at this⟩
          generalize hL : ks ++ tt = L at *
          have HLQ := Aside0.mk hL
          clear hL
          go_wp2_with (go_at_call 74; refine (sortN_calls u5 L w.heap.size _ (Kd.R_mono HN.out (fun _ _ => trivial)) (by omega)).mono ?_; rintro e w4 ⟨rfl, hr, hg⟩; have HB4 := Aside0.mk (HB.out.grown hg HB.out.size (fun j hj => Kd.R_base HN.out _ hj)); obtain ⟨A, c, e3, hc3, hC⟩ := Kd.R_reads hr; subst e3; have HNC := Aside0.mk hC; clear hr hg hC)
          have hll : ((srt L).length : Int) ≤ 2000000000 := by rw [srt_len]; omega
          generalize hns : srt L = ns at *
          have HNS := Aside0.mk hns
          clear hns
          have HX := Aside0.mk (Drawn0.refl w4)
          go_loopw [54] (fun v54 wx => ∃ x : Int, 0 ≤ x ∧ x ≤ (ns.length : Int) ∧ v54 = .int .i64 x ∧ Aside0 (befB D1 D2 (ns.drop x.toNat) = befB D1 D2 ns) ∧ Aside0 (Drawn0 w4 wx)) (fun v54 _ => ((ns.length : Int) - intOf v54).toNat)
          case atStart => exact ⟨0, by omega, by omega, rfl, ⟨rfl⟩, HX⟩
          case round =>
            obtain ⟨x, hx, hxl, rfl, HF, HX⟩ := hrel
            have HBX := Aside0.mk (HB4.out.trans (HX.out.below.mono HB4.out.size))
            by_cases hlt : x < (ns.length : Int)
            · obtain ⟨ad, e1, hx0⟩ := Kd.at_string (Kd.C_below HNC.out HX.out.below) x hx hlt
              cases e1
              have hmt := rd_memS ns x hx hlt
              have hds : ns.drop x.toNat = rdOf ByteArray.empty ns x :: ns.drop (x + 1).toNat := by
                obtain ⟨n, rfl⟩ := Int.eq_ofNat_of_zero_le hx
                have e : ((n : Int) + 1).toNat = n + 1 := by omega
                have e2 : rdOf ByteArray.empty ns n = ns[n] := by simp [rdOf, List.getD_eq_getElem?_getD, List.getElem?_eq_getElem (show n < ns.length by omega)]
                rw [e, e2, Int.toNat_natCast]
                exact List.drop_eq_getElem_cons (by omega)
              have HO1 := Aside0.mk (own_R_below H1.out HBX.out)
              have HO2 := Aside0.mk (own_R_below H2.out HBX.out)
              have hF := HF.out
              rw [hds] at hF
              generalize rdOf ByteArray.empty ns x = s at *
              have hss := HLE.out s hmt.1
              have HKY : Aside0 (keyOf Try.prog 105 (.string s) = some (.string s.data.toList)) := ⟨WideMaps.keyOf_string_mk Try.underlying105 hss⟩
              have hp := eq_true hx
              have hq := eq_true hlt
              clear hmt hss hds HF
              simp only [befB] at hF
              cases ha : hasD D1 s
              · rw [ha, if_pos rfl] at hF
                have HFF := Aside0.mk hF
                have HHA := Aside0.mk ha
                clear hF ha
                go_wp2_with (at_lookup; refine lookup_str_ok _ rfl _ _ 65 rfl 105 110 keyed67 Try.underlying65 Try.underlying110 (zero68 _) b1 n1 D1 rfl HO1.out _ s rfl HKY.out false HHA.out ?_; intro s3 hs3 hsl3; clear hs3 hsl3)
                go_ret
                exact ⟨ks, tt, by rw [HLQ.out, HNS.out, befV, if_neg C1.out, if_neg C2.out, ← HFF.out]; rfl, HP1.out, HP2.out, HBX.out⟩
              rw [ha, if_neg (by simp)] at hF
              have HHA := Aside0.mk ha
              clear ha
              cases hb : hasD D2 s
              · rw [hb, if_pos rfl] at hF
                have HFF := Aside0.mk hF
                have HHB := Aside0.mk hb
                clear hF hb
                go_wp2_with (first | (at_lookup; refine lookup_str_ok _ rfl _ _ 65 rfl 105 110 keyed67 Try.underlying65 Try.underlying110 (zero68 _) b1 n1 D1 rfl HO1.out _ s rfl HKY.out true HHA.out ?_; intro s3 hs3 hsl3; clear hs3 hsl3) | (at_lookup; refine lookup_str_ok _ rfl _ _ 65 rfl 105 110 keyed67 Try.underlying65 Try.underlying110 (zero68 _) b2 n2 D2 rfl HO2.out _ s rfl HKY.out false HHB.out ?_; intro s4 hs4 hsl4; clear hs4 hsl4))
                go_ret
                exact ⟨ks, tt, by rw [HLQ.out, HNS.out, befV, if_neg C1.out, if_neg C2.out, ← HFF.out]; rfl, HP1.out, HP2.out, HBX.out⟩
              rw [hb, if_neg (by simp)] at hF
              have HHB := Aside0.mk hb
              clear hb
              generalize hv1 : valD D1 s = v1 at *
              generalize hv2 : valD D2 s = v2 at *
              have HV1 := Aside0.mk hv1
              have HV2 := Aside0.mk hv2
              clear hv1 hv2
              cases h1 : Op.bytesLess v1.toList v2.toList
              · rw [h1, if_neg (by simp)] at hF
                cases h2 : (v1.toList == v2.toList)
                · have hgt : strGt v1 v2 = true := by simp [strGt, h1, h2]
                  rw [hgt, if_pos rfl] at hF
                  have HFF := Aside0.mk hF
                  clear hF hgt
                  go_wp2_with (first | (at_lookup; refine lookup_str_ok _ rfl _ _ 65 rfl 105 110 keyed67 Try.underlying65 Try.underlying110 (zero68 _) b1 n1 D1 rfl HO1.out _ s rfl HKY.out true HHA.out ?_; intro s3 hs3 hsl3; rw [HV1.out] at hs3; subst hs3; clear hsl3) | (at_lookup; refine lookup_str_ok _ rfl _ _ 65 rfl 105 110 keyed67 Try.underlying65 Try.underlying110 (zero68 _) b2 n2 D2 rfl HO2.out _ s rfl HKY.out true HHB.out ?_; intro s4 hs4 hsl4; rw [HV2.out] at hs4; subst hs4; clear hsl4))
                  go_ret
                  exact ⟨ks, tt, by rw [HLQ.out, HNS.out, befV, if_neg C1.out, if_neg C2.out, ← HFF.out]; rfl, HP1.out, HP2.out, HBX.out⟩
                · have hgt : strGt v1 v2 = false := by simp [strGt, h1, h2]
                  rw [hgt, if_neg (by simp)] at hF
                  have HFF := Aside0.mk hF
                  clear hF hgt
                  go_wp2_with (first | (at_lookup; refine lookup_str_ok _ rfl _ _ 65 rfl 105 110 keyed67 Try.underlying65 Try.underlying110 (zero68 _) b1 n1 D1 rfl HO1.out _ s rfl HKY.out true HHA.out ?_; intro s3 hs3 hsl3; rw [HV1.out] at hs3; subst hs3; clear hsl3) | (at_lookup; refine lookup_str_ok _ rfl _ _ 65 rfl 105 110 keyed67 Try.underlying65 Try.underlying110 (zero68 _) b2 n2 D2 rfl HO2.out _ s rfl HKY.out true HHB.out ?_; intro s4 hs4 hsl4; rw [HV2.out] at hs4; subst hs4; clear hsl4))
                  go_roundw
                  case rel => exact ⟨x + 1, by omega, by omega, by go_simp, HFF, HX⟩
                  case measure => simp [intOf]; omega
              · rw [h1, if_pos rfl] at hF
                have HFF := Aside0.mk hF
                clear hF
                go_wp2_with (first | (at_lookup; refine lookup_str_ok _ rfl _ _ 65 rfl 105 110 keyed67 Try.underlying65 Try.underlying110 (zero68 _) b1 n1 D1 rfl HO1.out _ s rfl HKY.out true HHA.out ?_; intro s3 hs3 hsl3; rw [HV1.out] at hs3; subst hs3; clear hsl3) | (at_lookup; refine lookup_str_ok _ rfl _ _ 65 rfl 105 110 keyed67 Try.underlying65 Try.underlying110 (zero68 _) b2 n2 D2 rfl HO2.out _ s rfl HKY.out true HHB.out ?_; intro s4 hs4 hsl4; rw [HV2.out] at hs4; subst hs4; clear hsl4))
                go_ret
                exact ⟨ks, tt, by rw [HLQ.out, HNS.out, befV, if_neg C1.out, if_neg C2.out, ← HFF.out]; rfl, HP1.out, HP2.out, HBX.out⟩
            · have hxe : x = (ns.length : Int) := by omega
              subst hxe
              have HFE : Aside0 (false = befB D1 D2 ns) := ⟨by have := HF.out; rwa [Int.toNat_natCast, List.drop_length] at this⟩
              go_wp2
              go_ret
              exact ⟨ks, tt, by rw [HLQ.out, HNS.out, befV, if_neg C1.out, if_neg C2.out, ← HFE.out]; rfl, HP1.out, HP2.out, HBX.out⟩
        · intro x c kl yd yp w3 cnt2 hkey hlk hv hat hrg2 hlt hg2 hs2 hen
          obtain ⟨x', ex, rfl, hxl⟩ := Maps.keyOf_str Try.underlying105 hkey
          obtain rfl : x = x' := encStr_inj ex
          have HC2 := Aside0.mk (HC.out.step hlk hat)
          have HR2 := Aside0.mk hrg2
          have HN2 := Aside0.mk (Kd.R_grown HN.out hg2 (fun k hk e => hk (by injection e)))
          have HWR2 : Aside0 (w.heap.size < r2) := ⟨Nat.lt_of_lt_of_le HL2.out (Nat.le_of_lt HSR.out)⟩
          have HB3 := Aside0.mk (HB.out.grown hg2 HB.out.size (fun j hj => by cases hj; exact Nat.le_of_lt HWR2.out))
          have HS2 : Aside0 (r2 < w3.heap.size) := ⟨by rw [hs2]; exact HS.out⟩
          have HF : Aside0 (∀ k, w3.heap.size ≤ k → k ≠ r2) := ⟨fun k hk => by have := HS2.out; omega⟩
          have HLT := Aside0.mk hlt
          have HCN2 : Aside0 (tt.length + 1 + cnt2 ≤ Maps.size D2) := ⟨by have := HCN.out; omega⟩
          have hkl : (ks ++ tt).length ≤ 2000000000 := by have := HCN2.out; rw [List.length_append]; omega
          clear hkey hlk hv hat hrg2 hlt hg2 hs2 ex hxl
          go_wp2_with (at_builtin; refine Kd.R_append Kd.string (w0 := w) w.heap.size rfl (.tmp 45) (.tmp 47) 112 105 (.string ⟨#[]⟩) 16 rfl Try.underlying112 infoLN rfl (by decide) (by omega) u5 ((ks ++ tt).map byB) (byB x) [.string (byB x)] (fun k => k ≠ r2) (fun _ => False) rfl (by first | (go_simp; done) | (go_simp; rfl)) rfl (fun _ hk => hk.elim) HF.out HN2.out HB3.out ?aS ?aL ?_; (case aS => exact HB3.out.size); (case aL => rw [List.length_map]; omega); intro v1 w4 ho hb hg4 hat4; have HO4 := Aside0.mk ho; have HB4 := Aside0.mk hb; have HG4 := Aside0.mk hg4; clear ho hb hg4 hat4)
          have HR4 := Aside0.mk (World.ranges.kept HR2.out HG4.out (fun e => by have := Kd.R_base HN2.out _ e.symm; have := L2.out; omega) (fun e => HN2.out.1 _ e.symm rfl))
          go_roundw
          case rel => exact ⟨_, cnt2, tt ++ [x], HR4, ⟨by rw [List.length_append]; exact HCN2.out⟩, ⟨by rw [← List.append_assoc, List.map_append]; exact HO4.out⟩, ⟨Nat.lt_of_lt_of_le HS2.out HG4.out.size⟩, HC2, HB4⟩
          case measure => rw [HR4.out.left_eq, HR.out.left_eq]; exact HLT.out
    · intro x c kl yd yp w3 cnt2 hkey hlk hv hat hrg2 hlt hg2 hs2 hen
      obtain ⟨x', ex, rfl, hxl⟩ := Maps.keyOf_str Try.underlying105 hkey
      obtain rfl : x = x' := encStr_inj ex
      have HC2 := Aside0.mk (HC.out.step hlk hat)
      have HR2 := Aside0.mk hrg2
      have HN2 := Aside0.mk (Kd.R_grown HN.out hg2 (fun k hk e => hk (by injection e)))
      have HB3 := Aside0.mk (HB.out.grown hg2 HB.out.size (fun j hj => by cases hj; exact Nat.le_of_lt HL2.out))
      have HS2 : Aside0 (r < w3.heap.size) := ⟨by rw [hs2]; exact HS.out⟩
      have HF : Aside0 (∀ k, w3.heap.size ≤ k → k ≠ r) := ⟨fun k hk => by have := HS2.out; omega⟩
      have HLT := Aside0.mk hlt
      have HCN2 : Aside0 (ks.length + 1 + cnt2 ≤ Maps.size D1) := ⟨by have := HCN.out; omega⟩
      have hkl : ks.length ≤ 1000000000 := by have := HCN2.out; omega
      clear hkey hlk hv hat hrg2 hlt hg2 hs2 ex hxl
      go_wp2_with (at_builtin; refine Kd.R_append Kd.string (w0 := w) w.heap.size rfl (.tmp 35) (.tmp 37) 112 105 (.string ⟨#[]⟩) 16 rfl Try.underlying112 infoLN rfl (by decide) (by omega) u5 (ks.map byB) (byB x) [.string (byB x)] (fun k => k ≠ r) (fun _ => False) rfl (by first | (go_simp; done) | (go_simp; rfl)) rfl (fun _ hk => hk.elim) HF.out HN2.out HB3.out ?aS ?aL ?_; (case aS => exact HB3.out.size); (case aL => rw [List.length_map]; omega); intro v1 w4 ho hb hg4 hat4; have HO4 := Aside0.mk ho; have HB4 := Aside0.mk hb; have HG4 := Aside0.mk hg4; clear ho hb hg4 hat4)
      have HR4 := Aside0.mk (World.ranges.kept HR2.out HG4.out (fun e => by have := Kd.R_base HN2.out _ e.symm; have := L1.out; omega) (fun e => HN2.out.1 _ e.symm rfl))
      go_roundw
      case rel => exact ⟨_, cnt2, ks ++ [x], HR4, ⟨by rw [List.length_append]; exact HCN2.out⟩, by simpa using HO4, ⟨Nat.lt_of_lt_of_le HS2.out HG4.out.size⟩, HC2, HB4⟩
      case measure => rw [HR4.out.left_eq, HR.out.left_eq]; exact HLT.out
end Go.Proofs.Ytikhlolhodgegaa.Q
