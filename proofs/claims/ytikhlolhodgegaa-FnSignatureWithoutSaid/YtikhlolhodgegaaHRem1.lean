/- A set of labels without some names: what the template's Remove returns. No condition beyond the lengths named. A set of labels without some names, as it is handed out: what impl.Without returns. No condition beyond the lengths named. -/
import Derived.Test.YtikhlolhodgegaaHKv1
import Derived.Test.YtikhlolhodgegaaHSet2
set_option linter.unusedVariables false
set_option linter.unusedSimpArgs false
namespace Go.Proofs.Ytikhlolhodgegaa.Q
open Go.RowKit Go.Proofs.YtikhlolhodgegaaW.PrintWords Go.Proofs.YtikhlolhodgegaaW.PrintLast Go.Proofs.YtikhlolhodgegaaW.PrintMore
open Go.Maps (Keyed string_keyed)
open Go.Proofs (encStr)
attribute [local go_sem] max2_int min2_int max_two min_two max_three min_three max_four min_four
def slit (s : ByteArray) : Lit := .string s.data.toList
def gone (names : List ByteArray) (k : List UInt8) : Bool := names.any (fun s => s.data.toList == k)
def keyset (names : List ByteArray) : DataW Unit := Maps.setOf (.agg []) (names.map slit)
theorem keyset_snoc (l : List ByteArray) (s : ByteArray) : (keyset l).put (.string s.data.toList) (.agg []) = keyset (l ++ [s]) := by
  unfold keyset
  rw [List.map_append, List.map_cons, List.map_nil, Maps.setOf_snoc]
  rfl
theorem has_keyset (names : List ByteArray) (k : List UInt8) : Maps.has (keyset names) (.string k) = gone names k := by
  unfold keyset gone
  rw [Maps.has_setOf _ _ _ (fun x hx => by obtain ⟨s, _, rfl⟩ := List.mem_map.1 hx; trivial), List.any_map]
  rfl
theorem filter_snoc (names : List ByteArray) (ks : List (List UInt8)) (x : List UInt8) : (ks ++ [x]).filter (fun k => !gone names k) = ks.filter (fun k => !gone names k) ++ (if gone names x = true then [] else [x]) := by
  rw [List.filter_append]
  cases h : gone names x <;> simp [h]
theorem zeroUnit (w : World) : (zeroValue 104).run Try.prog w = .ok (.agg #[]) w := by kernel_rfl
set_option maxRecDepth 100000 in
set_option maxHeartbeats 1600000 in
theorem remove_calls (b n : Nat) (D : DataW Unit) (A1 : Option Addr) (c1 : Nat) (names : List ByteArray) (w : World) (hown : OwnsKv w b n D) (hsz : Maps.size D ≤ 1000000000) (hr1 : Kd.C Kd.string w A1 names.length names) (_hc1 : names.length ≤ c1) (hn : names.length ≤ 1000000000) (hs : ∀ s ∈ names, s.size ≤ maxLen) :
    Calls Try.prog 64 #[.map (some b), .slice A1 names.length c1] w fun e w' => ∃ b', e = .returned (.map (some b')) ∧ w.heap.size ≤ b' ∧ Below w.heap.size w w' ∧ ∃ ks : List (List UInt8), ks.Perm (strKeys D) ∧ ∃ n', OwnsKv w' b' n' (mset ((ks.filter (fun k => !gone names k)).map (pairAt D))) := by
  have hbl := World.ownsMap.lt hown
  have HO := Aside0.mk hown
  have HBL := Aside0.mk hbl
  have HR1 := Aside0.mk hr1
  have HSH := Aside0.mk hs
  clear hown hbl hr1 hs
  have hmh := fun (n : Int) (w : World) => run_makeMap_hint (P := Try.prog) Try.underlying116 n w
  have hmm := @run_makeMap Try.prog
  have HB := Aside0.mk (below_alloc (Below.refl w.heap.size w) (.map #[] 0))
  have HM : Aside0 ((w.alloc (.map #[] 0)).ownsMap Try.prog 9 (unitElem (H := Unit)) w.heap.size 0 (keyset [])) := ⟨World.ownsMap_made _ _ _ _⟩
  go_enter Try.func64, Try.ntmps64
  go_wp2
  go_loopw [7, 18] (fun _ v18 wx => ∃ x : Int, 0 ≤ x ∧ x ≤ (names.length : Int) ∧ v18 = .int .i64 x ∧ Aside0 (wx.ownsMap Try.prog 9 (unitElem (H := Unit)) w.heap.size x.toNat (keyset (names.take x.toNat))) ∧ Aside0 (Below w.heap.size w wx)) (fun _ v18 _ => ((names.length : Int) - intOf v18).toNat)
  case atStart => exact ⟨0, by omega, by omega, rfl, by simpa using HM, HB⟩
  case round =>
    obtain ⟨x, hx, hxl, rfl, HK, HX⟩ := hrel
    by_cases hlt : x < (names.length : Int)
    · obtain ⟨ad, e1, hx0⟩ := Kd.at_string (Kd.C_below HR1.out HX.out) x hx hlt
      cases e1
      have hp := eq_true hx
      have hq := eq_true hlt
      have hmt := rd_memS names x hx hlt
      generalize rdOf ByteArray.empty names x = s at *
      have hss := HSH.out s hmt.1
      have hst := Aside0.mk hmt.2
      have HKY : Aside0 (keyOf Try.prog 9 (.string s) = some (.string s.data.toList)) := ⟨WideMaps.keyOf_string_mk Try.underlying9 hss⟩
      clear hmt hss
      go_wp2_with (at_mapUpdate; refine wpList_mapUpdate_own _ rfl _ _ _ 116 rfl 9 104 keyedS Try.underlying116 unitElem w.heap.size x.toNat (keyset (names.take x.toNat)) rfl HK.out (by unfold maxLen; omega) _ _ _ rfl rfl HKY.out _ [] unitElem_mk ?_; intro w1 hown1 hgrow1; have HK2 := Aside0.mk hown1; have HX2 := Aside0.mk (HX.out.grown hgrow1 HX.out.size (fun j hj => by cases hj; exact Nat.le_refl _)); clear hown1 hgrow1)
      go_roundw
      case rel => exact ⟨x + 1, by omega, by omega, by go_simp, ⟨by rw [hst.out, ← keyset_snoc]; have e : (x + 1).toNat = x.toNat + 1 := by omega
                                                                    rw [e]; exact HK2.out⟩, HX2⟩
      case measure => simp [intOf]; omega
    · have hxe : x = (names.length : Int) := by omega
      subst hxe
      have HK0 := HK.out
      rw [Int.toNat_natCast, List.take_length] at HK0
      have HKA := Aside0.mk (World.ownsMap.alloc HK0 (.map #[] 0))
      have HMA : Aside0 (OwnsKv (wr.alloc (.map #[] 0)) wr.heap.size 0 (mset [])) := ⟨World.ownsMap_made _ _ _ _⟩
      have HXA := Aside0.mk (below_alloc HX.out (.map #[] 0))
      have HKB : Aside0 (w.heap.size < wr.heap.size) := ⟨World.ownsMap.lt HK0⟩
      clear HK0
      go_wp2_with (at_range; refine wpList_range_own _ rfl _ 84 rfl 9 9 keyedS Try.underlying84 _ b n D rfl (own_K_below HO.out HXA.out) ?_; intro w0 hrg0 hg0 hs0; have HRG := Aside0.mk hrg0; have HG0 := Aside0.mk hg0; clear hrg0 hg0 hs0)
      have e : (wr.alloc (.map #[] 0)).heap.size = wr.heap.size + 1 := by simp
      rw [e] at HRG
      clear e
      generalize hrb : wr.heap.size = rb at *
      generalize hr : rb + 1 = r at *
      have HRR : Aside0 (r = rb + 1) := ⟨hr.symm⟩
      clear hr hrb
      go_loopw [9] (fun _ wr => ∃ (left : Lit → Bool) (cnt : Nat) (ks : List (List UInt8)) (nm : Nat), Aside0 (wr.ranges Try.prog 9 (plainElem Try.prog 9) b r n D left cnt) ∧ Aside0 (OwnsKv wr rb nm (mset ((ks.filter (fun k => !gone names k)).map (pairAt D)))) ∧ Aside0 (wr.ownsMap Try.prog 9 (unitElem (H := Unit)) w.heap.size names.length (keyset names)) ∧ Aside0 (nm + cnt ≤ Maps.size D) ∧ Aside0 (Collected D left ks) ∧ Aside0 (Below w.heap.size w wr)) (fun _ wr => wr.rangeLeft b r)
      case atStart => exact ⟨_, _, [], 0, HRG, ⟨World.ownsMap.kept HMA.out HG0.out (by simp)⟩, ⟨World.ownsMap.kept HKA.out HG0.out (by simp)⟩, ⟨by simp⟩, ⟨Collected.start D⟩, ⟨HXA.out.grown HG0.out HXA.out.size (fun j hj => by cases hj)⟩⟩
      case round =>
        obtain ⟨left, cnt, ks, nm, HR, HM2, HK, HN, HC, HB2⟩ := hrel
        go_wp2_with (at_next; refine wpList_next_ranges _ rfl _ rfl 9 keyedS (plainElem Try.prog 9) encStr Value.string (fun key kl hk => by obtain ⟨x, hx, _⟩ := Maps.keyOf_str Try.underlying9 hk; exact ⟨x, hx⟩) (fun v y hv => by obtain ⟨c, rfl, _⟩ := plainElem_string_inv Try.underlying9 hv; exact ⟨c, rfl⟩) b r n _ _ _ rfl HR.out ?_ ?_)
        · intro hc0 hl0
          have HL := Aside0.mk hl0
          clear hc0 hl0
          have HP := Aside0.mk (HC.out.perm HO.out keyedS Try.underlying9 HL.out)
          go_wp2
          go_ret
          exact ⟨_, rfl, Nat.le_of_lt HKB.out, HB2.out, ks, HP.out, nm, HM2.out⟩
        · intro x c kl yd yp w2 cnt2 hkey hlk hv hat hrg2 hlt2 hg2 hs2 hen
          obtain ⟨x', ex, rfl, hxl2⟩ := Maps.keyOf_str Try.underlying9 hkey
          obtain rfl : x = x' := encStr_inj ex
          obtain ⟨c', ec, ey, hcl⟩ := plainElem_string_inv Try.underlying9 hv
          injection ec with ec
          subst ec
          injection ey with ey1 ey2
          subst ey1 ey2
          have HV := Aside0.mk (val_of_entryB hat)
          have HC2 := Aside0.mk (HC.out.step hlk hat)
          have HR2 := Aside0.mk hrg2
          have HM3 := Aside0.mk (World.ownsMap.kept HM2.out hg2 (fun e => by have := HRR.out; injection e with e; omega))
          have HK3 := Aside0.mk (World.ownsMap.kept HK.out hg2 (fun e => by have := HRR.out; have := HKB.out; injection e with e; omega))
          have HB3 := Aside0.mk (HB2.out.grown hg2 HB2.out.size (fun j hj => by cases hj; have := HRR.out; have := HKB.out; omega))
          have HLT := Aside0.mk hlt2
          have HKX := Aside0.mk hkey
          have HVX := Aside0.mk hv
          have HN3 : Aside0 (nm + 1 + cnt2 ≤ Maps.size D) := ⟨by have := HN.out; omega⟩
          clear hkey hlk hv hat hrg2 hlt2 hg2 hs2 ex hxl2 hcl
          have hhas := has_keyset names x
          generalize hgx : gone names x = gx at *
          have HFS := Aside0.mk (filter_snoc names ks x)
          rw [hgx] at HFS
          cases gx
          · go_wp2_with (first | (at_lookup; refine wpList_lookup_own_unit _ rfl _ _ 116 rfl 9 104 keyedS Try.underlying116 (zeroUnit _) w.heap.size names.length (keyset names) rfl HK3.out _ _ rfl HKX.out ?_) | (at_mapUpdate; refine wpList_mapUpdate_own _ rfl _ _ _ 84 rfl 9 9 keyedS Try.underlying84 (plainElem Try.prog 9) rb nm _ rfl (World.ownsMap.alloc HM3.out _) (by have := HN3.out; unfold maxLen; omega) _ _ _ rfl rfl HKX.out _ [] HVX.out ?_; intro w3 hown3 hg3; have HM4 := Aside0.mk hown3; have HG3 := Aside0.mk hg3; have HB4 := Aside0.mk (Below.grown (below_alloc HB3.out _) hg3 (below_alloc HB3.out _).size (fun j hj => by cases hj; exact Nat.le_of_lt HKB.out)); have HK4 := Aside0.mk (World.ownsMap.kept (World.ownsMap.alloc HK3.out _) hg3 (fun e => by have := HKB.out; injection e with e; omega)); have HR3 := Aside0.mk (World.ranges.kept (World.ranges.kept HR2.out (grown_of_below (below_alloc (Below.refl _ _) _) none) (by simp) (by simp)) hg3 (fun e => by have := HBL.out; have := HKB.out; injection e with e; omega) (fun e => by have := HRR.out; injection e with e; omega)); clear hown3 hg3))
            go_frame
            go_roundw
            case rel => exact ⟨_, cnt2, ks ++ [x], nm + 1, HR3, ⟨by rw [HFS.out, if_neg (by simp), List.map_append, List.map_cons, List.map_nil, ← mset_add _ D _ x c HV.out rfl]; exact HM4.out⟩, HK4, HN3, HC2, HB4⟩
            case measure => rw [HR3.out.left_eq, HR.out.left_eq]; exact HLT.out
          · go_wp2_with (at_lookup; refine wpList_lookup_own_unit _ rfl _ _ 116 rfl 9 104 keyedS Try.underlying116 (zeroUnit _) w.heap.size names.length (keyset names) rfl HK3.out _ _ rfl HKX.out ?_)
            go_roundw
            case rel => exact ⟨_, cnt2, ks ++ [x], nm, ⟨World.ranges.kept HR2.out (grown_of_below (below_alloc (Below.refl _ _) _) none) (by simp) (by simp)⟩, ⟨by rw [HFS.out, if_pos rfl, List.append_nil]; exact World.ownsMap.alloc HM3.out _⟩, ⟨World.ownsMap.alloc HK3.out _⟩, ⟨by have := HN3.out; omega⟩, HC2, ⟨below_alloc HB3.out _⟩⟩
            case measure => rw [(World.ranges.kept HR2.out (grown_of_below (below_alloc (Below.refl _ _) _) none) (by simp) (by simp)).left_eq, HR.out.left_eq]; exact HLT.out
end Go.Proofs.Ytikhlolhodgegaa.Q
namespace Go.Proofs.Ytikhlolhodgegaa.Q
open Go.RowKit Go.Proofs.YtikhlolhodgegaaW.PrintWords Go.Proofs.YtikhlolhodgegaaW.PrintLast Go.Proofs.YtikhlolhodgegaaW.PrintMore
attribute [local go_sem] max2_int min2_int max_two min_two max_three min_three max_four min_four
theorem setGo_perm {Z Y : List S59} (hp : Z.Perm Y) (hY : SortedP Y) : setGo Z [] = Y := sorted_ext (setGo_sorted Z) hY fun q => by
  rw [mem_setGo_iff]
  constructor
  · intro h
    exact hp.mem_iff.1 (List.mem_reverse.1 (List.mem_of_find?_eq_some h))
  · intro hq
    cases hm : lastP Z (nm q) with
    | none =>
      have := List.find?_eq_none.1 hm q (List.mem_reverse.2 (hp.mem_iff.2 hq))
      simp at this
    | some m => rw [sorted_inj hY (hp.mem_iff.1 (List.mem_reverse.1 (List.mem_of_find?_eq_some hm))) hq (lastP_nm hm)]
def keepN (names : List ByteArray) (q : S59) : Bool := !gone names (nm q)
theorem without_is (l : List S26) (names : List ByteArray) (ks : List (List UInt8)) (h : ks.Perm (strKeys (mset l))) :
    setGo (((ks.filter (fun k => !gone names k)).map (pairAt (mset l))).map conv) [] = (setGo (l.map conv) []).filter (keepN names) := by
  refine setGo_perm ?_ (List.Pairwise.filter _ (setGo_sorted _))
  rw [keys_is] at h
  have h2 := h.filter (fun k => !gone names k)
  rw [List.filter_map] at h2
  have h3 := (h2.map (pairAt (mset l))).map conv
  rw [List.map_map, List.map_map] at h3
  rw [List.map_map]
  refine h3.trans ?_
  have e : ((setGo (l.map conv) []).filter ((fun k => !gone names k) ∘ nm)).map ((conv ∘ pairAt (mset l)) ∘ nm) = (setGo (l.map conv) []).filter (keepN names) := by
    refine (List.map_congr_left fun q hq => ?_).trans (List.map_id _)
    exact conv_pairAt l q (List.mem_filter.1 hq).1
  rw [← e]
  rw [List.map_map] 
def impl_Without.f (l0 : List (S26)) (l1 : List ByteArray) : Option ((List (S26))) := if l0.length ≤ 300000000 ∧ l1.length ≤ 300000000 ∧ shortPairs l0 ∧ (∀ s ∈ l1, s.size ≤ 140737488355328) then some ((kvOrd ((setGo (l0.map conv) []).filter (keepN l1))).map unconv) else none
set_option maxRecDepth 100000 in
set_option maxHeartbeats 800000 in
theorem impl_Without.calls (A0 : Option Addr) (c0 : Nat) (l0 : List (S26)) (A1 : Option Addr) (c1 : Nat) (l1 : List ByteArray) (r : List (S26)) (w : World) (hr0 : Kd.C k26 w A0 l0.length l0) (hc0 : l0.length ≤ c0) (hr1 : Kd.C Kd.string w A1 l1.length l1) (hc1 : l1.length ≤ c1) (h : impl_Without.f l0 l1 = some r) :
    Calls Try.prog 31 #[.slice A0 l0.length c0, .slice A1 l1.length c1] w fun e w' => ∃ v0_ : Value, e = .returned (v0_) ∧ Kd.R k26 26 w' w.heap.size (fun _ => True) v0_ r ∧ Below w.heap.size w w' := by
  unfold impl_Without.f at h
  split at h
  case isFalse => cases h
  rename_i hh
  obtain ⟨hl0, hl1, hs0, hs1⟩ := hh
  obtain rfl := Option.some.inj h
  clear h
  have HR0 := Aside0.mk hr0
  have HR1 := Aside0.mk hr1
  have HS0 := Aside0.mk hs0
  have HS1 : Aside0 (∀ s ∈ l1, s.size ≤ maxLen) := ⟨fun s hs => by have := hs1 s hs; unfold maxLen; omega⟩
  clear hr0 hr1 hs0 hs1
  go_enter Try.func31, Try.ntmps31
  go_wp2_with fail
  refine (kv_calls _ _ _ _ HR0.out hc0 (by omega) HS0.out).mono ?_
  rintro e w1 ⟨b1, rfl, hb1, ho1, hB1⟩
  have HO1 := Aside0.mk ho1
  have HB1 := Aside0.mk hB1
  have HR1' := Aside0.mk (Kd.C_below HR1.out hB1)
  clear hb1 ho1 hB1
  go_wp2_with fail
  refine (remove_calls _ _ _ _ _ _ _ HO1.out (by have := size_mset l0; omega) HR1'.out hc1 (by omega) HS1.out).mono ?_
  rintro e w2 ⟨b2, rfl, hb2, hB2, ks, hks, n2, ho2⟩
  have HB2 := Aside0.mk (below_step HB1.out hB2)
  have HO2 := Aside0.mk ho2
  have HE := Aside0.mk (without_is l0 l1 ks hks)
  have hlen : ((ks.filter (fun k => !gone l1 k)).map (pairAt (mset l0))).length ≤ l0.length := by
    rw [List.length_map]
    exact Nat.le_trans (List.length_filter_le _ _) (len_perm hks)
  clear hb2 hB2 ho2 hks
  generalize (ks.filter (fun k => !gone l1 k)).map (pairAt (mset l0)) = L2 at *
  go_wp2_with fail
  refine (kvSorted_calls _ _ _ _ HO2.out (by have := size_mset L2; omega)).mono ?_
  rintro e w3 ⟨v, rfl, ks3, hks3, s, hh3, hR3, hB3⟩
  have hlen3 := kvL_lenM hks3 hh3
  have HE3 : Aside0 (((kvL s ks3).map (tpair (mset L2))).map toP = kvO L2) := ⟨by rw [List.map_map]; exact kvOrd_is L2 ks3 hks3 s hh3⟩
  rw [← List.length_map (tpair (mset L2))] at hlen3
  clear hks3 hh3
  generalize (kvL s ks3).map (tpair (mset L2)) = L at *
  have HB3 := Aside0.mk (below_step HB2.out hB3)
  obtain ⟨A, c, e4, hc4, hC4⟩ := Kd.R_reads hR3
  subst e4
  have HC4 := Aside0.mk hC4
  clear hB3 hR3 hC4
  go_wp2_with fail
  have hpl := plain_is L (by omega) (L.length + 1) (by omega)
  refine (impl_plain.calls _ _ _ _ _ _ HC4.out hc4 hpl).mono ?_
  rintro e w4 ⟨v4, rfl, hR4, hB4⟩
  have HB4 := Aside0.mk (below_step HB3.out hB4)
  have HR4 := Aside0.mk (Kd.R_lower hR4 HB3.out.size)
  have HF : Aside0 (L.map toP = (kvOrd ((setGo (l0.map conv) []).filter (keepN l1))).map unconv) := ⟨by rw [HE3.out, ← HE.out]; rfl⟩
  clear hR4 hB4 hpl
  go_wp2
  go_ret
  exact ⟨_, rfl, by have := HR4.out; rwa [HF.out] at this, HB4.out⟩
end Go.Proofs.Ytikhlolhodgegaa.Q
