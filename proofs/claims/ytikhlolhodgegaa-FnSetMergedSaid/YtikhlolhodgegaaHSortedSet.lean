/- The labels of a set by ascending names: what impl.sortedSet returns. No condition beyond the size named. -/
import Derived.Test.YtikhlolhodgegaaHSortS
import Derived.Test.YtikhlolhodgegaaHSets
set_option linter.unusedVariables false
set_option linter.unusedSimpArgs false
namespace Go.Proofs.Ytikhlolhodgegaa.Q
open Go.RowKit Go.Proofs.YtikhlolhodgegaaW.PrintWords Go.Proofs.YtikhlolhodgegaaW.PrintLast Go.Proofs.YtikhlolhodgegaaW.PrintMore
open Go.Maps (Keyed string_keyed)
open Go.Proofs (encStr)
attribute [local go_sem] max2_int min2_int max_two min_two max_three min_three max_four min_four
theorem infoStr : (Try.prog.info? 9).map (fun i => (i.zero, i.size, i.bytes)) = some (some (.string ⟨#[]⟩), 1, 16) := by kernel_rfl
def pairOf (D : DataW Unit) (s : ByteArray) : S26 := ⟨s, valD D s⟩
theorem srt_mem {l : List (List UInt8)} {s : ByteArray} (h : s ∈ srt l) : s.data.toList ∈ l := by
  unfold srt srtL at h
  obtain ⟨x, hx, rfl⟩ := List.mem_map.1 h
  have := (List.mergeSort_perm l (fun x y => decide (x ≤ y))).mem_iff.1 hx
  simpa [byB] using this
theorem srt_len (l : List (List UInt8)) : (srt l).length = l.length := by simp [srt, srtL]
theorem rd_memS (l : List ByteArray) (x : Int) (h0 : 0 ≤ x) (h1 : x < (l.length : Int)) : rdOf ByteArray.empty l x ∈ l ∧ l.take (x + 1).toNat = l.take x.toNat ++ [rdOf ByteArray.empty l x] := by
  obtain ⟨n, rfl⟩ := Int.eq_ofNat_of_zero_le h0
  have e2 : rdOf ByteArray.empty l n = l[n] := by simp [rdOf, List.getD_eq_getElem?_getD, List.getElem?_eq_getElem (show n < l.length by omega)]
  have e : ((n : Int) + 1).toNat = n + 1 := by omega
  rw [e2, e, Int.toNat_natCast, List.take_succ_eq_append_getElem (by omega)]
  exact ⟨List.getElem_mem _, rfl⟩
theorem perm_len {D : DataW Unit} {ks : List (List UInt8)} (h : ks.Perm (strKeys D)) {w : World} {b n : Nat} (ho : OwnsSet w b n D) : ks.length = Maps.size D := by
  rw [h.length_eq]
  obtain ⟨es, rfl, _⟩ := World.ownsMap.entries ho keyed67
  simp [strKeys, Maps.size_eq]
set_option maxRecDepth 100000 in
set_option maxHeartbeats 1600000 in
theorem sortedSet_calls (b n : Nat) (D : DataW Unit) (w : World) (hown : OwnsSet w b n D) (hsz : Maps.size D ≤ 1000000000) :
    Calls Try.prog 55 #[.map (some b)] w fun e w' => ∃ v, e = .returned v ∧ ∃ ks, ks.Perm (strKeys D) ∧ Kd.R k26 26 w' w.heap.size (fun _ => True) v ((srt ks).map (pairOf D)) ∧ Below w.heap.size w w' := by
  have hbl := World.ownsMap.lt hown
  have HO := Aside0.mk hown
  have HBL := Aside0.mk hbl
  clear hown hbl
  have HB := Aside0.mk (Below.refl w.heap.size w)
  go_enter Try.func55, Try.ntmps55
  go_wp2_with (at_range; refine wpList_range_own _ rfl _ 65 rfl 105 110 keyed67 Try.underlying65 _ b n _ rfl HO.out ?_; intro w0 hrg0 hg0 hs0; have HRG := Aside0.mk hrg0; have HG0 := Aside0.mk hg0; have HS0 : Aside0 (w.heap.size < w0.heap.size) := ⟨by omega⟩; clear hrg0 hg0 hs0)
  go_frame
  go_loopw [3] (fun v3 wr => ∃ (left : Lit → Bool) (cnt : Nat) (ss : List (List UInt8)), Aside0 (wr.ranges Try.prog 105 (plainElem Try.prog 110) b w.heap.size n D left cnt) ∧ Aside0 (ss.length + cnt ≤ Maps.size D) ∧ Aside0 (Kd.R Kd.string 9 wr w.heap.size (fun k => k ≠ w.heap.size) v3 (ss.map byB)) ∧ Aside0 (w.heap.size < wr.heap.size) ∧ Aside0 (Collected D left ss) ∧ Aside0 (Below w.heap.size w wr)) (fun _ wr => wr.rangeLeft b w.heap.size)
  case atStart => exact ⟨_, _, [], HRG, ⟨by simp⟩, ⟨Kd.R_nil _ _ _ _ _⟩, HS0, ⟨Collected.start D⟩, ⟨HB.out.grown HG0.out (Nat.le_refl _) (fun j hj => by cases hj)⟩⟩
  case round =>
    obtain ⟨left, cnt, ss, HR, HCN, HN, HS, HC, HB⟩ := hrel
    go_wp2_with (at_next; refine wpList_next_ranges _ rfl _ rfl 105 keyed67 (plainElem Try.prog 110) encStr Value.string (fun key kl hk => by obtain ⟨x, hx, _⟩ := Maps.keyOf_str Try.underlying105 hk; exact ⟨x, hx⟩) (fun v y hv => by obtain ⟨c, rfl, _⟩ := plainElem_string_inv Try.underlying110 hv; exact ⟨c, rfl⟩) b w.heap.size n _ _ _ rfl HR.out ?_ ?_)
    · intro hc0 hl0
      have HL := Aside0.mk hl0
      clear hc0 hl0
      have HP := Aside0.mk (HC.out.perm HO.out keyed67 Try.underlying105 HL.out)
      have hl : ss.length ≤ 1000000000 := by rw [perm_len HP.out HO.out]; exact hsz
      have HLE : Aside0 (∀ s ∈ srt ss, s.size ≤ maxLen) := ⟨fun s hs => by
        have := strKeys_le HO.out Try.underlying105 _ (HP.out.mem_iff.1 (srt_mem hs))
        rwa [Array.length_toList] at this⟩
      go_wp2_with (go_at_call 84; refine (sort_calls u3 ss w.heap.size _ (Kd.R_mono HN.out (fun _ _ => trivial)) (by omega)).mono ?_; rintro e w4 ⟨rfl, hr, hg⟩; have HB4 := Aside0.mk (HB.out.grown hg HB.out.size (fun j hj => Kd.R_base HN.out _ hj)); obtain ⟨A, c, e3, hc3, hC⟩ := Kd.R_reads hr; subst e3; have HNC := Aside0.mk hC; clear hr hg hC)
      have hll : ((srt ss).length : Int) ≤ 1000000000 := by rw [srt_len]; omega
      generalize hns : srt ss = ns at *
      have HX := Aside0.mk (Below.refl w4.heap.size w4)
      go_loopw [5, 22] (fun v5 v22 wx => ∃ x : Int, 0 ≤ x ∧ x ≤ (ns.length : Int) ∧ v22 = .int .i64 x ∧ Aside0 (Kd.R k26 26 wx w4.heap.size (fun _ => True) v5 ((ns.take x.toNat).map (pairOf D))) ∧ Aside0 (Below w4.heap.size w4 wx)) (fun _ v22 _ => ((ns.length : Int) - intOf v22).toNat)
      case atStart => exact ⟨0, by omega, by omega, rfl, ⟨by simpa using Kd.R_nil _ _ _ _ _⟩, HX⟩
      case round =>
        obtain ⟨x, hx, hxl, rfl, HV, HX⟩ := hrel
        by_cases hlt : x < (ns.length : Int)
        · obtain ⟨ad, e1, hx0⟩ := Kd.at_string (Kd.C_below HNC.out HX.out) x hx hlt
          cases e1
          have hmt := rd_memS ns x hx hlt
          have HOW := Aside0.mk (own_R_below HO.out (HB4.out.trans (HX.out.mono HB4.out.size)))
          generalize rdOf ByteArray.empty ns x = s at *
          have hss := HLE.out s hmt.1
          have hst := Aside0.mk hmt.2
          have HK : Aside0 (keyOf Try.prog 105 (.string s) = some (.string s.data.toList)) := ⟨WideMaps.keyOf_string_mk Try.underlying105 hss⟩
          have hp := eq_true hx
          have hq := eq_true hlt
          clear hmt hss
          go_wp2_with (first | (at_lookup; refine lookup_str _ rfl _ _ 65 rfl 105 110 keyed67 Try.underlying65 Try.underlying110 (zero68 _) b n D rfl HOW.out _ s rfl HK.out ?_; intro s2 hs2 hsl2; have HSV := Aside0.mk hs2; clear hs2 hsl2) | (at_builtin; refine Kd.R_append k26 (w0 := w4) w4.heap.size rfl (.tmp 26) (.tmp 32) 22 26 (.agg #[.string ⟨#[]⟩, .string ⟨#[]⟩]) 32 rfl Try.underlying22 info26 rfl (by decide) (by omega) u5 ((ns.take x.toNat).map (pairOf D)) (⟨s, s2⟩ : S26) [.string s, .string s2] (fun _ => True) (fun _ => False) rfl (by first | (go_simp; done) | (go_simp; rfl)) (k26_mkM _ _ _ (⟨s, s2⟩ : S26)) (fun _ hk => hk.elim) (fun _ _ => trivial) HV.out HX.out ?aS ?aL ?_; (case aS => exact HX.out.size); (case aL => rw [List.length_map, List.length_take]; omega); intro v1 w6 ho hb hg3 hat3; have HO3 := Aside0.mk ho; have HB3 := Aside0.mk hb; clear ho hb hg3 hat3))
          go_roundw
          case rel => exact ⟨x + 1, by omega, by omega, by go_simp, ⟨by rw [hst.out, List.map_append]; have e : pairOf D s = ⟨s, s2⟩ := by rw [pairOf, HSV.out]
                                                                        rw [List.map_cons, List.map_nil, e]; exact HO3.out⟩, HB3⟩
          case measure => simp [intOf]; omega
        · have hxe : x = (ns.length : Int) := by omega
          subst hxe
          have HV2 := HV.out
          rw [Int.toNat_natCast, List.take_length] at HV2
          have HV2 := Aside0.mk HV2
          go_wp2
          go_ret
          exact ⟨_, rfl, ss, HP.out, by rw [hns]; exact Kd.R_lower HV2.out HB4.out.size, HB4.out.trans (HX.out.mono HB4.out.size)⟩
    · intro x c kl yd yp w2 cnt2 hkey hlk hv hat hrg2 hlt hg2 hs2 hen
      obtain ⟨x', ex, rfl, hxl⟩ := Maps.keyOf_str Try.underlying105 hkey
      obtain rfl : x = x' := encStr_inj ex
      have HC2 := Aside0.mk (HC.out.step hlk hat)
      have HR2 := Aside0.mk hrg2
      have HN2 := Aside0.mk (Kd.R_grown HN.out hg2 (fun k hk e => hk (by injection e)))
      have HB2 := Aside0.mk (HB.out.grown hg2 HB.out.size (fun j hj => by cases hj; exact Nat.le_refl _))
      have HS2 : Aside0 (w.heap.size < w2.heap.size) := ⟨by rw [hs2]; exact HS.out⟩
      have HF : Aside0 (∀ k, w2.heap.size ≤ k → k ≠ w.heap.size) := ⟨fun k hk => by have := HS2.out; omega⟩
      have HLT := Aside0.mk hlt
      have HCN2 : Aside0 ((ss ++ [x]).length + cnt2 ≤ Maps.size D) := ⟨by have := HCN.out; simp; omega⟩
      clear hkey hlk hv hat hrg2 hlt hg2 hs2 ex hxl
      go_wp2_with (at_builtin; refine Kd.R_append Kd.string (w0 := w) w.heap.size rfl (.tmp 14) (.tmp 16) 38 9 (.string ⟨#[]⟩) 16 rfl Try.underlying38 infoStr rfl (by decide) (by omega) u3 (ss.map byB) (byB x) [.string (byB x)] (fun k => k ≠ w.heap.size) (fun _ => False) rfl (by first | (go_simp; done) | (go_simp; rfl)) rfl (fun _ hk => hk.elim) HF.out HN2.out HB2.out ?aS ?aL ?_; (case aS => exact HB2.out.size); (case aL => have := HCN2.out; simp at this ⊢; omega); intro v1 w3 ho hb hg3 hat3; have HO3 := Aside0.mk ho; have HB3 := Aside0.mk hb; have HG3 := Aside0.mk hg3; clear ho hb hg3 hat3)
      have HR3 := Aside0.mk (World.ranges.kept HR2.out HG3.out (fun e => by have := Kd.R_base HN2.out _ e.symm; have := HBL.out; omega) (fun e => HN2.out.1 _ e.symm rfl))
      go_roundw
      case rel => exact ⟨_, cnt2, ss ++ [x], HR3, HCN2, by simpa using HO3, ⟨Nat.lt_of_lt_of_le HS2.out HG3.out.size⟩, HC2, HB3⟩
      case measure => rw [HR3.out.left_eq, HR.out.left_eq]; exact HLT.out
end Go.Proofs.Ytikhlolhodgegaa.Q
