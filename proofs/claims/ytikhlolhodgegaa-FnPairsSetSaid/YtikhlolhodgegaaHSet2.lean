/- Sorting a row of strings of the call's own: what sort.Strings does to it. No condition beyond the length named. The labels of a set by ascending names: what impl.sortedSet returns. No condition beyond the size named. Merging sets of labels: what LabelSet.Merge and impl.SetMerge return. No condition beyond the lengths named. A set collected out of a map in any order is the set of the pairs that made the map. No condition. Merging sets of labels: what impl.SetMerge returns. No condition beyond the lengths named. The list of a set is its own set. No condition. -/
import Derived.Test.YtikhlolhodgegaaHKinds
import Derived.Test.YtikhlolhodgegaaHSSort
import Derived.Sort.OwnSorted
import Derived.Sort.KeysCollected
import Derived.Test.YtikhlolhodgegaaHSet1
namespace Go.Proofs.Ytikhlolhodgegaa.Q
open Go.RowKit Go.Sort Go.Proofs.YtikhlolhodgegaaW.PrintWords Go.Proofs.YtikhlolhodgegaaW.PrintLast Go.Proofs.YtikhlolhodgegaaW.PrintMore
open Go.Proofs (encStr)
def byB (l : List UInt8) : ByteArray := ⟨l.toArray⟩
/-- The strings in ascending order. -/
def srtL (l : List (List UInt8)) : List (List UInt8) := l.mergeSort (fun x y => decide (x ≤ y))
def srt (l : List (List UInt8)) : List ByteArray := (srtL l).map byB
theorem encs_byB (l : List (List UInt8)) : encs Value.string (l.map byB) = l.map encStr := by
  unfold encs
  rw [List.map_map]
  rfl
theorem sort_calls (v : Value) (ss : List (List UInt8)) (base : Nat) (w : World) (hR : Kd.R Kd.string 9 w base (fun _ => True) v (ss.map byB)) (hl : ss.length ≤ 10000000000) :
    Calls Try.prog 84 #[v] w fun e w' => e = .returned (.tuple #[]) ∧ Kd.R Kd.string 9 w' base (fun _ => True) v (srt ss) ∧ w.grownBy w' v.ownBlock := by
  have ho := Kd.own_of_R hR
  rw [encs_byB, List.length_map] at ho
  rcases ho.2 with ⟨rfl, hn⟩ | ⟨g, cap, cur, rfl, hbase, hb, h1, h2, h3, h4⟩
  · obtain rfl : ss = [] := List.eq_nil_of_length_eq_zero hn
    refine (Try.sort_Strings_none none 0 w).mono ?_
    rintro e w' ⟨rfl, rfl⟩
    have e0 : srt [] = [] := by simp [srt, srtL]
    exact ⟨rfl, by rw [e0]; exact hR, World.grownBy.refl _ _⟩
  · have hH : Holds encStr w g 0 ss.toArray := holds_of_block hb (by simpa using h4)
    have hgl : g < w.heap.size := (Array.getElem?_eq_some_iff.1 hb).1
    refine (Try.sort_Strings g 0 cap ss w hH hgl (by omega)).mono ?_
    rintro e w' ⟨rfl, n, os, rfl⟩
    have hlen : (srtL ss).length = ss.length := by simp [srtL]
    have hs := ownsRow_sorted (n := n) (os := os) (ss := ss) (ts := srtL ss) hlen hbase hb h1 h2 h3
    refine ⟨rfl, ?_, grownBy_sorted _⟩
    refine Kd.R_of_own ?_ (fun _ _ => trivial)
    unfold srt
    rw [encs_byB, List.length_map, hlen]
    exact hs
end Go.Proofs.Ytikhlolhodgegaa.Q
namespace Go.Proofs.Ytikhlolhodgegaa.Q
open Go.RowKit Go.Proofs.YtikhlolhodgegaaW.PrintWords Go.Proofs.YtikhlolhodgegaaW.PrintLast Go.Proofs.YtikhlolhodgegaaW.PrintMore
open Go.Maps (Keyed string_keyed)
open Go.Proofs (encStr)
attribute [local go_sem] max2_int min2_int max_two min_two max_three min_three max_four min_four
theorem infoStr : (Try.prog.info? 9).map (fun i => (i.zero, i.size, i.bytes)) = some (some (.string ⟨#[]⟩), 1, 16) := by kernel_rfl
def pairOf (D : DataW Unit) (s : ByteArray) : S26 := ⟨s, valD D s⟩
theorem srt_mem {l : List (List UInt8)} {s : ByteArray} (h : s ∈ srt l) : s.data.toList ∈ l := by
  unfold srt srtL at h
  obtain ⟨x, hx, rfl⟩ := List.mem_map.1 h
  have := (List.mergeSort_perm l (fun x y => decide (x ≤ y))).mem_iff.1 hx
  simpa [byB] using this
theorem srt_len (l : List (List UInt8)) : (srt l).length = l.length := by simp [srt, srtL]
theorem rd_memS (l : List ByteArray) (x : Int) (h0 : 0 ≤ x) (h1 : x < (l.length : Int)) : rdOf ByteArray.empty l x ∈ l ∧ l.take (x + 1).toNat = l.take x.toNat ++ [rdOf ByteArray.empty l x] := by
  obtain ⟨n, rfl⟩ := Int.eq_ofNat_of_zero_le h0
  have e2 : rdOf ByteArray.empty l n = l[n] := by simp [rdOf, List.getD_eq_getElem?_getD, List.getElem?_eq_getElem (show n < l.length by omega)]
  have e : ((n : Int) + 1).toNat = n + 1 := by omega
  rw [e2, e, Int.toNat_natCast, List.take_succ_eq_append_getElem (by omega)]
  exact ⟨List.getElem_mem _, rfl⟩
theorem perm_len {D : DataW Unit} {ks : List (List UInt8)} (h : ks.Perm (strKeys D)) {w : World} {b n : Nat} (ho : OwnsSet w b n D) : ks.length = Maps.size D := by
  rw [h.length_eq]
  obtain ⟨es, rfl, _⟩ := World.ownsMap.entries ho keyed67
  simp [strKeys, Maps.size_eq]
set_option maxRecDepth 100000 in
set_option maxHeartbeats 1600000 in
theorem sortedSet_calls (b n : Nat) (D : DataW Unit) (w : World) (hown : OwnsSet w b n D) (hsz : Maps.size D ≤ 1000000000) :
    Calls Try.prog 55 #[.map (some b)] w fun e w' => ∃ v, e = .returned v ∧ ∃ ks, ks.Perm (strKeys D) ∧ Kd.R k26 26 w' w.heap.size (fun _ => True) v ((srt ks).map (pairOf D)) ∧ Below w.heap.size w w' := by
  have hbl := World.ownsMap.lt hown
  have HO := Aside0.mk hown
  have HBL := Aside0.mk hbl
  clear hown hbl
  have HB := Aside0.mk (Below.refl w.heap.size w)
  go_enter Try.func55, Try.ntmps55
  go_wp2_with (at_range; refine wpList_range_own _ rfl _ 65 rfl 105 110 keyed67 Try.underlying65 _ b n _ rfl HO.out ?_; intro w0 hrg0 hg0 hs0; have HRG := Aside0.mk hrg0; have HG0 := Aside0.mk hg0; have HS0 : Aside0 (w.heap.size < w0.heap.size) := ⟨by omega⟩; clear hrg0 hg0 hs0)
  go_frame
  go_loopw [3] (fun v3 wr => ∃ (left : Lit → Bool) (cnt : Nat) (ss : List (List UInt8)), Aside0 (wr.ranges Try.prog 105 (plainElem Try.prog 110) b w.heap.size n D left cnt) ∧ Aside0 (ss.length + cnt ≤ Maps.size D) ∧ Aside0 (Kd.R Kd.string 9 wr w.heap.size (fun k => k ≠ w.heap.size) v3 (ss.map byB)) ∧ Aside0 (w.heap.size < wr.heap.size) ∧ Aside0 (Collected D left ss) ∧ Aside0 (Below w.heap.size w wr)) (fun _ wr => wr.rangeLeft b w.heap.size)
  case atStart => exact ⟨_, _, [], HRG, ⟨by simp⟩, ⟨Kd.R_nil _ _ _ _ _⟩, HS0, ⟨Collected.start D⟩, ⟨HB.out.grown HG0.out (Nat.le_refl _) (fun j hj => by cases hj)⟩⟩
  case round =>
    obtain ⟨left, cnt, ss, HR, HCN, HN, HS, HC, HB⟩ := hrel
    go_wp2_with (at_next; refine wpList_next_ranges _ rfl _ rfl 105 keyed67 (plainElem Try.prog 110) encStr Value.string (fun key kl hk => by obtain ⟨x, hx, _⟩ := Maps.keyOf_str Try.underlying105 hk; exact ⟨x, hx⟩) (fun v y hv => by obtain ⟨c, rfl, _⟩ := plainElem_string_inv Try.underlying110 hv; exact ⟨c, rfl⟩) b w.heap.size n _ _ _ rfl HR.out ?_ ?_)
    · intro hc0 hl0
      have HL := Aside0.mk hl0
      clear hc0 hl0
      have HP := Aside0.mk (HC.out.perm HO.out keyed67 Try.underlying105 HL.out)
      have hl : ss.length ≤ 1000000000 := by rw [perm_len HP.out HO.out]; exact hsz
      have HLE : Aside0 (∀ s ∈ srt ss, s.size ≤ maxLen) := ⟨fun s hs => by
        have := strKeys_le HO.out Try.underlying105 _ (HP.out.mem_iff.1 (srt_mem hs))
        rwa [Array.length_toList] at this⟩
      go_wp2_with (go_at_call 84; refine (sort_calls u3 ss w.heap.size _ (Kd.R_mono HN.out (fun _ _ => trivial)) (by omega)).mono ?_; rintro e w4 ⟨rfl, hr, hg⟩; have HB4 := Aside0.mk (HB.out.grown hg HB.out.size (fun j hj => Kd.R_base HN.out _ hj)); obtain ⟨A, c, e3, hc3, hC⟩ := Kd.R_reads hr; subst e3; have HNC := Aside0.mk hC; clear hr hg hC)
      have hll : ((srt ss).length : Int) ≤ 1000000000 := by rw [srt_len]; omega
      generalize hns : srt ss = ns at *
      have HX := Aside0.mk (Below.refl w4.heap.size w4)
      go_loopw [5, 22] (fun v5 v22 wx => ∃ x : Int, 0 ≤ x ∧ x ≤ (ns.length : Int) ∧ v22 = .int .i64 x ∧ Aside0 (Kd.R k26 26 wx w4.heap.size (fun _ => True) v5 ((ns.take x.toNat).map (pairOf D))) ∧ Aside0 (Below w4.heap.size w4 wx)) (fun _ v22 _ => ((ns.length : Int) - intOf v22).toNat)
      case atStart => exact ⟨0, by omega, by omega, rfl, ⟨by simpa using Kd.R_nil _ _ _ _ _⟩, HX⟩
      case round =>
        obtain ⟨x, hx, hxl, rfl, HV, HX⟩ := hrel
        by_cases hlt : x < (ns.length : Int)
        · obtain ⟨ad, e1, hx0⟩ := Kd.at_string (Kd.C_below HNC.out HX.out) x hx hlt
          cases e1
          have hmt := rd_memS ns x hx hlt
          have HOW := Aside0.mk (own_R_below HO.out (HB4.out.trans (HX.out.mono HB4.out.size)))
          generalize rdOf ByteArray.empty ns x = s at *
          have hss := HLE.out s hmt.1
          have hst := Aside0.mk hmt.2
          have HK : Aside0 (keyOf Try.prog 105 (.string s) = some (.string s.data.toList)) := ⟨WideMaps.keyOf_string_mk Try.underlying105 hss⟩
          have hp := eq_true hx
          have hq := eq_true hlt
          clear hmt hss
          go_wp2_with (first | (at_lookup; refine lookup_str _ rfl _ _ 65 rfl 105 110 keyed67 Try.underlying65 Try.underlying110 (zero68 _) b n D rfl HOW.out _ s rfl HK.out ?_; intro s2 hs2 hsl2; have HSV := Aside0.mk hs2; clear hs2 hsl2) | (at_builtin; refine Kd.R_append k26 (w0 := w4) w4.heap.size rfl (.tmp 26) (.tmp 32) 22 26 (.agg #[.string ⟨#[]⟩, .string ⟨#[]⟩]) 32 rfl Try.underlying22 info26 rfl (by decide) (by omega) u5 ((ns.take x.toNat).map (pairOf D)) (⟨s, s2⟩ : S26) [.string s, .string s2] (fun _ => True) (fun _ => False) rfl (by first | (go_simp; done) | (go_simp; rfl)) (k26_mkM _ _ _ (⟨s, s2⟩ : S26)) (fun _ hk => hk.elim) (fun _ _ => trivial) HV.out HX.out ?aS ?aL ?_; (case aS => exact HX.out.size); (case aL => rw [List.length_map, List.length_take]; omega); intro v1 w6 ho hb hg3 hat3; have HO3 := Aside0.mk ho; have HB3 := Aside0.mk hb; clear ho hb hg3 hat3))
          go_roundw
          case rel => exact ⟨x + 1, by omega, by omega, by go_simp, ⟨by rw [hst.out, List.map_append]; have e : pairOf D s = ⟨s, s2⟩ := by rw [pairOf, HSV.out]
                                                                        rw [List.map_cons, List.map_nil, e]; exact HO3.out⟩, HB3⟩
          case measure => simp [intOf]; omega
        · have hxe : x = (ns.length : Int) := by omega
          subst hxe
          have HV2 := HV.out
          rw [Int.toNat_natCast, List.take_length] at HV2
          have HV2 := Aside0.mk HV2
          go_wp2
          go_ret
          exact ⟨_, rfl, ss, HP.out, by rw [hns]; exact Kd.R_lower HV2.out HB4.out.size, HB4.out.trans (HX.out.mono HB4.out.size)⟩
    · intro x c kl yd yp w2 cnt2 hkey hlk hv hat hrg2 hlt hg2 hs2 hen
      obtain ⟨x', ex, rfl, hxl⟩ := Maps.keyOf_str Try.underlying105 hkey
      obtain rfl : x = x' := encStr_inj ex
      have HC2 := Aside0.mk (HC.out.step hlk hat)
      have HR2 := Aside0.mk hrg2
      have HN2 := Aside0.mk (Kd.R_grown HN.out hg2 (fun k hk e => hk (by injection e)))
      have HB2 := Aside0.mk (HB.out.grown hg2 HB.out.size (fun j hj => by cases hj; exact Nat.le_refl _))
      have HS2 : Aside0 (w.heap.size < w2.heap.size) := ⟨by rw [hs2]; exact HS.out⟩
      have HF : Aside0 (∀ k, w2.heap.size ≤ k → k ≠ w.heap.size) := ⟨fun k hk => by have := HS2.out; omega⟩
      have HLT := Aside0.mk hlt
      have HCN2 : Aside0 ((ss ++ [x]).length + cnt2 ≤ Maps.size D) := ⟨by have := HCN.out; simp; omega⟩
      clear hkey hlk hv hat hrg2 hlt hg2 hs2 ex hxl
      go_wp2_with (at_builtin; refine Kd.R_append Kd.string (w0 := w) w.heap.size rfl (.tmp 14) (.tmp 16) 38 9 (.string ⟨#[]⟩) 16 rfl Try.underlying38 infoStr rfl (by decide) (by omega) u3 (ss.map byB) (byB x) [.string (byB x)] (fun k => k ≠ w.heap.size) (fun _ => False) rfl (by first | (go_simp; done) | (go_simp; rfl)) rfl (fun _ hk => hk.elim) HF.out HN2.out HB2.out ?aS ?aL ?_; (case aS => exact HB2.out.size); (case aL => have := HCN2.out; simp at this ⊢; omega); intro v1 w3 ho hb hg3 hat3; have HO3 := Aside0.mk ho; have HB3 := Aside0.mk hb; have HG3 := Aside0.mk hg3; clear ho hb hg3 hat3)
      have HR3 := Aside0.mk (World.ranges.kept HR2.out HG3.out (fun e => by have := Kd.R_base HN2.out _ e.symm; have := HBL.out; omega) (fun e => HN2.out.1 _ e.symm rfl))
      go_roundw
      case rel => exact ⟨_, cnt2, ss ++ [x], HR3, HCN2, by simpa using HO3, ⟨Nat.lt_of_lt_of_le HS2.out HG3.out.size⟩, HC2, HB3⟩
      case measure => rw [HR3.out.left_eq, HR.out.left_eq]; exact HLT.out
end Go.Proofs.Ytikhlolhodgegaa.Q
namespace Go.Proofs.Ytikhlolhodgegaa.Q
open Go.RowKit Go.Proofs.YtikhlolhodgegaaW.PrintWords Go.Proofs.YtikhlolhodgegaaW.PrintLast Go.Proofs.YtikhlolhodgegaaW.PrintMore
open Go.Maps (Keyed string_keyed)
open Go.Proofs (encStr)
attribute [local go_sem] max2_int min2_int max_two min_two max_three min_three max_four min_four
def pairAt (D : DataW Unit) (k : List UInt8) : S26 := ⟨byB k, valD D (byB k)⟩
theorem val_of_entryB {D : DataW Unit} {x : List UInt8} {c : ByteArray} (hat : ∀ zd, D.atKey (.string x) zd = .lit (.string c.data.toList)) : c = valD D (byB x) := valD_of (hat _)
theorem mset_add (D D0 : DataW Unit) (l : List S26) (x : List UInt8) (c : ByteArray) (hc : c = valD D0 (byB x)) (h : D = mset l) : D.put (.string x) (.lit (.string c.data.toList)) = mset (l ++ [pairAt D0 x]) := by
  rw [mset_snoc, h, hc]; rfl
theorem run_makeMap_hint {P : Program} {t k e : TypeId} (hu : P.underlying t = some (.map k e)) (n : Int) (w : World) : (Instr.makeMap t (some (.int .i64 n))).run P w = .ok (.map (some w.heap.size)) (w.alloc (.map #[] 0)) := by
  simp [Instr.makeMap, run_underlying hu, asInt, asIntOf]
set_option maxRecDepth 100000 in
set_option maxHeartbeats 1600000 in
theorem merge_calls (b1 n1 b2 n2 : Nat) (D1 D2 : DataW Unit) (w : World) (h1 : OwnsSet w b1 n1 D1) (h2 : OwnsSet w b2 n2 D2) (z1 : Maps.size D1 ≤ 1000000000) (z2 : Maps.size D2 ≤ 1000000000) :
    Calls Try.prog 57 #[.map (some b1), .map (some b2)] w fun e w' => ∃ b, e = .returned (.map (some b)) ∧ w.heap.size ≤ b ∧ Below w.heap.size w w' ∧ ∃ (k1 k2 : List (List UInt8)) (n : Nat), k1.Perm (strKeys D1) ∧ k2.Perm (strKeys D2) ∧ OwnsSet w' b n (mset (k1.map (pairAt D1) ++ k2.map (pairAt D2))) := by
  have hl1 := World.ownsMap.lt h1
  have hl2 := World.ownsMap.lt h2
  have H1 := Aside0.mk h1
  have H2 := Aside0.mk h2
  have L1 := Aside0.mk hl1
  have L2 := Aside0.mk hl2
  clear h1 h2 hl1 hl2
  have hmh := fun (n : Int) (w : World) => run_makeMap_hint (P := Try.prog) Try.underlying65 n w
  have HB := Aside0.mk (below_alloc (Below.refl w.heap.size w) (.map #[] 0))
  have HM : Aside0 (OwnsSet (w.alloc (.map #[] 0)) w.heap.size 0 (mset [])) := ⟨World.ownsMap_made _ _ _ _⟩
  go_enter Try.func57, Try.ntmps57
  go_wp2_with (first | (at_len; refine wpList_len_own _ rfl _ 65 rfl 105 110 Try.underlying65 _ b1 n1 _ rfl H1.out ?_) | (at_range; refine wpList_range_own _ rfl _ 65 rfl 105 110 keyed67 Try.underlying65 _ b1 n1 D1 rfl (own_R_below H1.out (below_alloc (Below.refl _ _) _)) ?_; intro w0 hrg0 hg0 hs0; have HRG := Aside0.mk hrg0; have HG0 := Aside0.mk hg0; clear hrg0 hg0 hs0))
  go_frame
  generalize hr : (w.alloc (.map #[] 0)).heap.size = r at *
  have HRR : Aside0 (r = w.heap.size + 1) := ⟨by rw [← hr]; simp⟩
  clear hr
  go_loopw [6] (fun _ wr => ∃ (left : Lit → Bool) (cnt : Nat) (ss : List (List UInt8)) (nm : Nat), Aside0 (wr.ranges Try.prog 105 (plainElem Try.prog 110) b1 r n1 D1 left cnt) ∧ Aside0 (OwnsSet wr w.heap.size nm (mset (ss.map (pairAt D1)))) ∧ Aside0 (nm + cnt ≤ Maps.size D1) ∧ Aside0 (Collected D1 left ss) ∧ Aside0 (Below w.heap.size w wr)) (fun _ wr => wr.rangeLeft b1 r)
  case atStart => exact ⟨_, _, [], 0, HRG, ⟨World.ownsMap.kept HM.out HG0.out (by simp)⟩, ⟨by simp⟩, ⟨Collected.start D1⟩, ⟨HB.out.grown HG0.out HB.out.size (fun j hj => by cases hj)⟩⟩
  case round =>
    obtain ⟨left, cnt, ss, nm, HR, HM, HN, HC, HB⟩ := hrel
    go_wp2_with (at_next; refine wpList_next_ranges _ rfl _ rfl 105 keyed67 (plainElem Try.prog 110) encStr Value.string (fun key kl hk => by obtain ⟨x, hx, _⟩ := Maps.keyOf_str Try.underlying105 hk; exact ⟨x, hx⟩) (fun v y hv => by obtain ⟨c, rfl, _⟩ := plainElem_string_inv Try.underlying110 hv; exact ⟨c, rfl⟩) b1 r n1 _ _ _ rfl HR.out ?_ ?_)
    · intro hc0 hl0
      have HL := Aside0.mk hl0
      clear hc0 hl0
      have HP1 := Aside0.mk (HC.out.perm H1.out keyed67 Try.underlying105 HL.out)
      have HRL : Aside0 (w.heap.size < wr.heap.size) := ⟨World.ownsMap.lt HM.out⟩
      have HNA : Aside0 (nm ≤ Maps.size D1) := ⟨by have := HN.out; omega⟩
      go_wp2_with (at_range; refine wpList_range_own _ rfl _ 65 rfl 105 110 keyed67 Try.underlying65 _ b2 n2 D2 rfl (own_R_below H2.out HB.out) ?_; intro w5 hrg5 hg5 hs5; have HRG5 := Aside0.mk hrg5; have HM5 := Aside0.mk (World.ownsMap.kept HM.out hg5 (by simp)); have HB5 := Aside0.mk (HB.out.grown hg5 HB.out.size (fun j hj => by cases hj)); clear hrg5 hg5 hs5)
      go_frame
      generalize hr2 : wr.heap.size = r2 at *
      have HRS : Aside0 (w.heap.size < r2) := HRL
      clear hr2
      go_loopw [8] (fun _ wx => ∃ (left : Lit → Bool) (cnt : Nat) (tt : List (List UInt8)) (nm : Nat), Aside0 (wx.ranges Try.prog 105 (plainElem Try.prog 110) b2 r2 n2 D2 left cnt) ∧ Aside0 (OwnsSet wx w.heap.size nm (mset (ss.map (pairAt D1) ++ tt.map (pairAt D2)))) ∧ Aside0 (nm + cnt ≤ Maps.size D1 + Maps.size D2) ∧ Aside0 (Collected D2 left tt) ∧ Aside0 (Below w.heap.size w wx)) (fun _ wx => wx.rangeLeft b2 r2)
      case atStart => exact ⟨_, _, [], nm, HRG5, ⟨by rw [List.map_nil, List.append_nil]; exact HM5.out⟩, ⟨by have := HNA.out; omega⟩, ⟨Collected.start D2⟩, HB5⟩
      case round =>
        obtain ⟨left, cnt, tt, nm, HR, HM, HN, HC, HB⟩ := hrel
        go_wp2_with (at_next; refine wpList_next_ranges _ rfl _ rfl 105 keyed67 (plainElem Try.prog 110) encStr Value.string (fun key kl hk => by obtain ⟨x, hx, _⟩ := Maps.keyOf_str Try.underlying105 hk; exact ⟨x, hx⟩) (fun v y hv => by obtain ⟨c, rfl, _⟩ := plainElem_string_inv Try.underlying110 hv; exact ⟨c, rfl⟩) b2 r2 n2 _ _ _ rfl HR.out ?_ ?_)
        · intro hc0 hl0
          have HL := Aside0.mk hl0
          clear hc0 hl0
          have HP2 := Aside0.mk (HC.out.perm H2.out keyed67 Try.underlying105 HL.out)
          go_wp2
          go_ret
          exact ⟨_, rfl, Nat.le_refl _, HB.out, ss, tt, nm, HP1.out, HP2.out, HM.out⟩
        · intro x c kl yd yp w2 cnt2 hkey hlk hv hat hrg2 hlt hg2 hs2 hen
          obtain ⟨x', ex, rfl, hxl⟩ := Maps.keyOf_str Try.underlying105 hkey
          obtain rfl : x = x' := encStr_inj ex
          obtain ⟨c', ec, ey, hcl⟩ := plainElem_string_inv Try.underlying110 hv
          injection ec with ec
          subst ec
          injection ey with ey1 ey2
          subst ey1 ey2
          have HV := Aside0.mk (val_of_entryB hat)
          have HC2 := Aside0.mk (HC.out.step hlk hat)
          have HR2 := Aside0.mk hrg2
          have HM2 := Aside0.mk (World.ownsMap.kept HM.out hg2 (fun e => by have := HRS.out; injection e with e; omega))
          have HB2 := Aside0.mk (HB.out.grown hg2 HB.out.size (fun j hj => by cases hj; have := HRS.out; omega))
          have HLT := Aside0.mk hlt
          have HKX := Aside0.mk hkey
          have HVX := Aside0.mk hv
          have HN2 : Aside0 (nm + 1 + cnt2 ≤ Maps.size D1 + Maps.size D2) := ⟨by have := HN.out; omega⟩
          clear hkey hlk hv hat hrg2 hlt hg2 hs2 ex hxl hcl
          go_wp2_with (at_mapUpdate; refine wpList_mapUpdate_own _ rfl _ _ _ 65 rfl 105 110 keyed67 Try.underlying65 (plainElem Try.prog 110) w.heap.size nm _ rfl HM2.out (by have := HN2.out; unfold maxLen; omega) _ _ _ rfl rfl HKX.out _ [] HVX.out ?_; intro w3 hown3 hg3; have HM3 := Aside0.mk hown3; have HG3 := Aside0.mk hg3; have HB3 := Aside0.mk (HB2.out.grown hg3 HB2.out.size (fun j hj => by cases hj; exact Nat.le_refl _)); clear hown3 hg3)
          have HR3 := Aside0.mk (World.ranges.kept HR2.out HG3.out (fun e => by have := L2.out; injection e with e; omega) (fun e => by have := HRS.out; injection e with e; omega))
          go_frame
          go_roundw
          case rel => exact ⟨_, cnt2, tt ++ [x], nm + 1, HR3, ⟨by rw [List.map_append, List.map_cons, List.map_nil, ← List.append_assoc, ← mset_add _ D2 _ x c HV.out rfl]; exact HM3.out⟩, HN2, HC2, HB3⟩
          case measure => rw [HR3.out.left_eq, HR.out.left_eq]; exact HLT.out
    · intro x c kl yd yp w2 cnt2 hkey hlk hv hat hrg2 hlt hg2 hs2 hen
      obtain ⟨x', ex, rfl, hxl⟩ := Maps.keyOf_str Try.underlying105 hkey
      obtain rfl : x = x' := encStr_inj ex
      obtain ⟨c', ec, ey, hcl⟩ := plainElem_string_inv Try.underlying110 hv
      injection ec with ec
      subst ec
      injection ey with ey1 ey2
      subst ey1 ey2
      have HV := Aside0.mk (val_of_entryB hat)
      have HC2 := Aside0.mk (HC.out.step hlk hat)
      have HR2 := Aside0.mk hrg2
      have HM2 := Aside0.mk (World.ownsMap.kept HM.out hg2 (fun e => by have := HRR.out; injection e with e; omega))
      have HB2 := Aside0.mk (HB.out.grown hg2 HB.out.size (fun j hj => by cases hj; have := HRR.out; omega))
      have HLT := Aside0.mk hlt
      have HKX := Aside0.mk hkey
      have HVX := Aside0.mk hv
      have HN2 : Aside0 (nm + 1 + cnt2 ≤ Maps.size D1) := ⟨by have := HN.out; omega⟩
      clear hkey hlk hv hat hrg2 hlt hg2 hs2 ex hxl hcl
      go_wp2_with (at_mapUpdate; refine wpList_mapUpdate_own _ rfl _ _ _ 65 rfl 105 110 keyed67 Try.underlying65 (plainElem Try.prog 110) w.heap.size nm _ rfl HM2.out (by have := HN2.out; unfold maxLen; omega) _ _ _ rfl rfl HKX.out _ [] HVX.out ?_; intro w3 hown3 hg3; have HM3 := Aside0.mk hown3; have HG3 := Aside0.mk hg3; have HB3 := Aside0.mk (HB2.out.grown hg3 HB2.out.size (fun j hj => by cases hj; exact Nat.le_refl _)); clear hown3 hg3)
      have HR3 := Aside0.mk (World.ranges.kept HR2.out HG3.out (fun e => by have := L1.out; injection e with e; omega) (fun e => by have := HRR.out; injection e with e; omega))
      go_frame
      go_roundw
      case rel => exact ⟨_, cnt2, ss ++ [x], nm + 1, HR3, ⟨by rw [List.map_append, List.map_cons, List.map_nil, ← mset_add _ D1 _ x c HV.out rfl]; exact HM3.out⟩, HN2, HC2, HB3⟩
      case measure => rw [HR3.out.left_eq, HR.out.left_eq]; exact HLT.out
end Go.Proofs.Ytikhlolhodgegaa.Q
namespace Go.Proofs.Ytikhlolhodgegaa.Q
open Go.RowKit
theorem nm_pairAt (D : DataW Unit) (k : List UInt8) : nm (conv (pairAt D k)) = k := by simp [nm, conv, pairAt, byB]
theorem byB_nm (q : S59) : byB (nm q) = q.f0 := ba_eq q.f0
theorem conv_pairAt (a : List S26) (q : S59) (h : q ∈ setGo (a.map conv) []) : conv (pairAt (mset a) (nm q)) = q := by
  unfold pairAt conv
  simp only [byB_nm]
  rw [val_is a q h]
theorem lastP_keys (a : List S26) (ks : List (List UInt8)) (hp : ks.Perm (strKeys (mset a))) (n : List UInt8) : lastP ((ks.map (pairAt (mset a))).map conv) n = lastP (a.map conv) n := by
  have hk : ∀ k, k ∈ ks ↔ ∃ q ∈ setGo (a.map conv) [], nm q = k := fun k => by rw [hp.mem_iff, keys_is, List.mem_map]
  cases hl : lastP (a.map conv) n with
  | some q =>
    have hn := lastP_nm hl
    have hq : q ∈ setGo (a.map conv) [] := (mem_setGo_iff _ _).2 (by rw [hn]; exact hl)
    have hmem : conv (pairAt (mset a) n) ∈ (ks.map (pairAt (mset a))).map conv := List.mem_map_of_mem (List.mem_map_of_mem ((hk n).2 ⟨q, hq, hn⟩))
    cases hm : lastP ((ks.map (pairAt (mset a))).map conv) n with
    | none =>
      have := List.find?_eq_none.1 hm (conv (pairAt (mset a) n)) (List.mem_reverse.2 hmem)
      rw [nm_pairAt] at this
      simp at this
    | some m =>
      have hmn := lastP_nm hm
      have hmm := List.mem_reverse.1 (List.mem_of_find?_eq_some hm)
      obtain ⟨p, hp1, rfl⟩ := List.mem_map.1 hmm
      obtain ⟨k, _, rfl⟩ := List.mem_map.1 hp1
      rw [nm_pairAt] at hmn
      rw [hmn, ← hn, conv_pairAt a q hq]
  | none =>
    refine List.find?_eq_none.2 fun m hm => ?_
    obtain ⟨p, hp1, rfl⟩ := List.mem_map.1 (List.mem_reverse.1 hm)
    obtain ⟨k, hk1, rfl⟩ := List.mem_map.1 hp1
    rw [nm_pairAt]
    intro e
    have e' : k = n := by simpa using e
    obtain ⟨q, hq, hqn⟩ := (hk k).1 hk1
    have := (mem_setGo_iff _ _).1 hq
    rw [hqn, e', hl] at this
    cases this
/-- The merged set's list, whatever the orders. -/
theorem merged_is (a b : List S26) (k1 k2 : List (List UInt8)) (h1 : k1.Perm (strKeys (mset a))) (h2 : k2.Perm (strKeys (mset b))) :
    setGo ((k1.map (pairAt (mset a)) ++ k2.map (pairAt (mset b))).map conv) [] = setGo ((a ++ b).map conv) [] :=
  setGo_ext fun n => by rw [List.map_append, List.map_append, lastP_app, lastP_app, lastP_keys a k1 h1, lastP_keys b k2 h2]
def unconv (q : S59) : S26 := ⟨q.f0, q.f1⟩
theorem srtL_sorted (S : List S59) (h : SortedP S) : srtL (S.map nm) = S.map nm := by
  unfold srtL
  refine List.mergeSort_of_pairwise ?_
  rw [List.pairwise_map]
  exact List.Pairwise.imp (fun hab => by simp only [decide_eq_true_eq]; exact List.le_of_lt hab) h
/-- What sortedSet returns of the map that pairs make. -/
theorem sortedSet_is (l : List S26) (ks : List (List UInt8)) (h : ks.Perm (strKeys (mset l))) : (srt ks).map (pairOf (mset l)) = (setGo (l.map conv) []).map unconv := by
  have e : srtL ks = srtL (strKeys (mset l)) := mergeSort_of_perm h
  unfold srt
  rw [e, keys_is, srtL_sorted _ (setGo_sorted _), List.map_map, List.map_map]
  refine List.map_congr_left fun q hq => ?_
  show pairOf (mset l) (byB (nm q)) = unconv q
  unfold pairOf unconv
  rw [byB_nm, val_is l q hq]
end Go.Proofs.Ytikhlolhodgegaa.Q
namespace Go.Proofs.Ytikhlolhodgegaa.Q
open Go.RowKit Go.Proofs.YtikhlolhodgegaaW.PrintWords Go.Proofs.YtikhlolhodgegaaW.PrintLast Go.Proofs.YtikhlolhodgegaaW.PrintMore
attribute [local go_sem] max2_int min2_int max_two min_two max_three min_three max_four min_four
theorem size_mset (l : List S26) : Maps.size (mset l) ≤ l.length := by
  rw [size_is]
  have := Sset_len (l.map conv) []
  simpa using this
theorem len_perm {l : List S26} {ks : List (List UInt8)} (h : ks.Perm (strKeys (mset l))) : ks.length ≤ l.length := by
  rw [h.length_eq, keys_is, List.length_map]
  have := Sset_len (l.map conv) []
  simpa using this
def mergedL (a b : List S26) : List S26 := (setGo ((a ++ b).map conv) []).map unconv
def impl_SetMerge.f (l0 : List (S26)) (l1 : List (S26)) : Option ((List (S26))) := if l0.length ≤ 300000000 ∧ l1.length ≤ 300000000 ∧ shortPairs l0 ∧ shortPairs l1 then some (mergedL l0 l1) else none
set_option maxRecDepth 100000 in
set_option maxHeartbeats 800000 in
theorem impl_SetMerge.calls (A0 : Option Addr) (c0 : Nat) (l0 : List (S26)) (A1 : Option Addr) (c1 : Nat) (l1 : List (S26)) (r : List (S26)) (w : World) (hr0 : Kd.C k26 w A0 l0.length l0) (hc0 : l0.length ≤ c0) (hr1 : Kd.C k26 w A1 l1.length l1) (hc1 : l1.length ≤ c1) (h : impl_SetMerge.f l0 l1 = some r) :
    Calls Try.prog 15 #[.slice A0 l0.length c0, .slice A1 l1.length c1] w fun e w' => ∃ v0_ : Value, e = .returned (v0_) ∧ Kd.R k26 26 w' w.heap.size (fun _ => True) v0_ r ∧ Below w.heap.size w w' := by
  unfold impl_SetMerge.f at h
  split at h
  case isFalse => cases h
  rename_i hh
  obtain ⟨hl0, hl1, hs0, hs1⟩ := hh
  obtain rfl := Option.some.inj h
  clear h
  have HR0 := Aside0.mk hr0
  have HR1 := Aside0.mk hr1
  have HS0 := Aside0.mk hs0
  have HS1 := Aside0.mk hs1
  clear hr0 hr1 hs0 hs1
  go_enter Try.func15, Try.ntmps15
  go_wp2_with fail
  refine (labelSet_calls _ _ _ _ HR0.out hc0 (by omega) HS0.out).mono ?_
  rintro e w1 ⟨b1, rfl, hb1, ho1, hB1⟩
  have HO1 := Aside0.mk ho1
  have HB1 := Aside0.mk hB1
  have HR1' := Aside0.mk (Kd.C_below HR1.out hB1)
  clear hb1 ho1 hB1
  go_wp2_with fail
  refine (labelSet_calls _ _ _ _ HR1'.out hc1 (by omega) HS1.out).mono ?_
  rintro e w2 ⟨b2, rfl, hb2, ho2, hB2⟩
  have HO2 := Aside0.mk ho2
  have HO1' := Aside0.mk (own_R_below HO1.out hB2)
  have HB2 := Aside0.mk (below_step HB1.out hB2)
  clear hb2 ho2 hB2
  go_wp2_with fail
  refine (merge_calls _ _ _ _ _ _ _ HO1'.out HO2.out (by have := size_mset l0; omega) (by have := size_mset l1; omega)).mono ?_
  rintro e w3 ⟨b, rfl, hb, hB3, k1, k2, n, hk1, hk2, ho3⟩
  have HO3 := Aside0.mk ho3
  have HB3 := Aside0.mk (below_step HB2.out hB3)
  have HK := Aside0.mk (merged_is l0 l1 k1 k2 hk1 hk2)
  have HZ : Aside0 (Maps.size (mset (k1.map (pairAt (mset l0)) ++ k2.map (pairAt (mset l1)))) ≤ 1000000000) := ⟨by
    have a := size_mset (k1.map (pairAt (mset l0)) ++ k2.map (pairAt (mset l1)))
    have b := len_perm hk1
    have c := len_perm hk2
    simp at a
    omega⟩
  clear hb hB3 hk1 hk2 ho3
  go_wp2_with fail
  refine (sortedSet_calls _ _ _ _ HO3.out HZ.out).mono ?_
  rintro e w4 ⟨v, rfl, ks, hks, hR, hB4⟩
  have HR := Aside0.mk hR
  have HB4 := Aside0.mk (below_step HB3.out hB4)
  have HE := Aside0.mk ((sortedSet_is _ ks hks).trans (congrArg (List.map unconv) HK.out))
  have HW := Aside0.mk HB3.out.size
  clear hks hR hB4
  go_wp2
  go_ret
  exact ⟨_, rfl, by have := HR.out; rw [HE.out] at this; exact Kd.R_lower this HW.out, HB4.out⟩
end Go.Proofs.Ytikhlolhodgegaa.Q
namespace Go.Proofs.Ytikhlolhodgegaa.Q
open Go.RowKit
theorem sorted_inj {X : List S59} (h : SortedP X) : ∀ {p q : S59}, p ∈ X → q ∈ X → nm p = nm q → p = q := by
  induction X with
  | nil => intro p q hp; simp at hp
  | cons a X ih =>
    have h' := List.pairwise_cons.1 h
    intro p q hp hq e
    rcases List.mem_cons.1 hp with hp | hp <;> rcases List.mem_cons.1 hq with hq | hq
    · rw [hp, hq]
    · have := h'.1 q hq
      rw [← hp, e] at this
      exact absurd this (List.lt_irrefl _)
    · have := h'.1 p hp
      rw [← hq, e] at this
      exact absurd this (List.lt_irrefl _)
    · exact ih h'.2 hp hq e
theorem lastP_sorted {X : List S59} (h : SortedP X) (q : S59) : lastP X (nm q) = some q ↔ q ∈ X := by
  constructor
  · intro hl
    exact List.mem_reverse.1 (List.mem_of_find?_eq_some hl)
  · intro hq
    cases hm : lastP X (nm q) with
    | none =>
      have := List.find?_eq_none.1 hm q (List.mem_reverse.2 hq)
      simp at this
    | some m => rw [sorted_inj h (List.mem_reverse.1 (List.mem_of_find?_eq_some hm)) hq (lastP_nm hm)]
theorem setGo_idem (X : List S59) (h : SortedP X) : setGo X [] = X :=
  sorted_ext (setGo_sorted X) h (fun q => by rw [mem_setGo_iff, lastP_sorted h])
theorem conv_unconv (X : List S59) : (X.map unconv).map conv = X := by
  rw [List.map_map]
  exact (List.map_congr_left (fun q _ => rfl)).trans (List.map_id X)
theorem merged_set (a b : List S26) : setGo ((mergedL a b).map conv) [] = setGo ((a ++ b).map conv) [] := by
  unfold mergedL
  rw [conv_unconv, setGo_idem _ (setGo_sorted _)]
end Go.Proofs.Ytikhlolhodgegaa.Q
