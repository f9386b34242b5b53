/- A set of labels without some names: what the template's Remove returns. No condition beyond the lengths named. -/
import Derived.Test.YtikhlolhodgegaaHKv1
import Derived.Test.YtikhlolhodgegaaHSet2
set_option linter.unusedVariables false
set_option linter.unusedSimpArgs false
namespace Go.Proofs.Ytikhlolhodgegaa.Q
open Go.RowKit Go.Proofs.YtikhlolhodgegaaW.PrintWords Go.Proofs.YtikhlolhodgegaaW.PrintLast Go.Proofs.YtikhlolhodgegaaW.PrintMore
open Go.Maps (Keyed string_keyed)
open Go.Proofs (encStr)
attribute [local go_sem] max2_int min2_int max_two min_two max_three min_three max_four min_four
def slit (s : ByteArray) : Lit := .string s.data.toList
def gone (names : List ByteArray) (k : List UInt8) : Bool := names.any (fun s => s.data.toList == k)
def keyset (names : List ByteArray) : DataW Unit := Maps.setOf (.agg []) (names.map slit)
theorem keyset_snoc (l : List ByteArray) (s : ByteArray) : (keyset l).put (.string s.data.toList) (.agg []) = keyset (l ++ [s]) := by
  unfold keyset
  rw [List.map_append, List.map_cons, List.map_nil, Maps.setOf_snoc]
  rfl
theorem has_keyset (names : List ByteArray) (k : List UInt8) : Maps.has (keyset names) (.string k) = gone names k := by
  unfold keyset gone
  rw [Maps.has_setOf _ _ _ (fun x hx => by obtain ⟨s, _, rfl⟩ := List.mem_map.1 hx; trivial), List.any_map]
  rfl
theorem filter_snoc (names : List ByteArray) (ks : List (List UInt8)) (x : List UInt8) : (ks ++ [x]).filter (fun k => !gone names k) = ks.filter (fun k => !gone names k) ++ (if gone names x = true then [] else [x]) := by
  rw [List.filter_append]
  cases h : gone names x <;> simp [h]
theorem zeroUnit (w : World) : (zeroValue 104).run Try.prog w = .ok (.agg #[]) w := by kernel_rfl
set_option maxRecDepth 100000 in
set_option maxHeartbeats 1600000 in
theorem remove_calls (b n : Nat) (D : DataW Unit) (A1 : Option Addr) (c1 : Nat) (names : List ByteArray) (w : World) (hown : OwnsKv w b n D) (hsz : Maps.size D ≤ 1000000000) (hr1 : Kd.C Kd.string w A1 names.length names) (_hc1 : names.length ≤ c1) (hn : names.length ≤ 1000000000) (hs : ∀ s ∈ names, s.size ≤ maxLen) :
    Calls Try.prog 64 #[.map (some b), .slice A1 names.length c1] w fun e w' => ∃ b', e = .returned (.map (some b')) ∧ w.heap.size ≤ b' ∧ Below w.heap.size w w' ∧ ∃ ks : List (List UInt8), ks.Perm (strKeys D) ∧ ∃ n', OwnsKv w' b' n' (mset ((ks.filter (fun k => !gone names k)).map (pairAt D))) := by
  have hbl := World.ownsMap.lt hown
  have HO := Aside0.mk hown
  have HBL := Aside0.mk hbl
  have HR1 := Aside0.mk hr1
  have HSH := Aside0.mk hs
  clear hown hbl hr1 hs
  have hmh := fun (n : Int) (w : World) => run_makeMap_hint (P := Try.prog) Try.underlying116 n w
  have hmm := @run_makeMap Try.prog
  have HB := Aside0.mk (below_alloc (Below.refl w.heap.size w) (.map #[] 0))
  have HM : Aside0 ((w.alloc (.map #[] 0)).ownsMap Try.prog 9 (unitElem (H := Unit)) w.heap.size 0 (keyset [])) := ⟨World.ownsMap_made _ _ _ _⟩
  go_enter Try.func64, Try.ntmps64
  go_wp2
  go_loopw [7, 18] (fun _ v18 wx => ∃ x : Int, 0 ≤ x ∧ x ≤ (names.length : Int) ∧ v18 = .int .i64 x ∧ Aside0 (wx.ownsMap Try.prog 9 (unitElem (H := Unit)) w.heap.size x.toNat (keyset (names.take x.toNat))) ∧ Aside0 (Below w.heap.size w wx)) (fun _ v18 _ => ((names.length : Int) - intOf v18).toNat)
  case atStart => exact ⟨0, by omega, by omega, rfl, by simpa using HM, HB⟩
  case round =>
    obtain ⟨x, hx, hxl, rfl, HK, HX⟩ := hrel
    by_cases hlt : x < (names.length : Int)
    · obtain ⟨ad, e1, hx0⟩ := Kd.at_string (Kd.C_below HR1.out HX.out) x hx hlt
      cases e1
      have hp := eq_true hx
      have hq := eq_true hlt
      have hmt := rd_memS names x hx hlt
      generalize rdOf ByteArray.empty names x = s at *
      have hss := HSH.out s hmt.1
      have hst := Aside0.mk hmt.2
      have HKY : Aside0 (keyOf Try.prog 9 (.string s) = some (.string s.data.toList)) := ⟨WideMaps.keyOf_string_mk Try.underlying9 hss⟩
      clear hmt hss
      go_wp2_with (at_mapUpdate; refine wpList_mapUpdate_own _ rfl _ _ _ 116 rfl 9 104 keyedS Try.underlying116 unitElem w.heap.size x.toNat (keyset (names.take x.toNat)) rfl HK.out (by unfold maxLen; omega) _ _ _ rfl rfl HKY.out _ [] unitElem_mk ?_; intro w1 hown1 hgrow1; have HK2 := Aside0.mk hown1; have HX2 := Aside0.mk (HX.out.grown hgrow1 HX.out.size (fun j hj => by cases hj; exact Nat.le_refl _)); clear hown1 hgrow1)
      go_roundw
      case rel => exact ⟨x + 1, by omega, by omega, by go_simp, ⟨by rw [hst.out, ← keyset_snoc]; have e : (x + 1).toNat = x.toNat + 1 := by omega
                                                                    rw [e]; exact HK2.out⟩, HX2⟩
      case measure => simp [intOf]; omega
    · have hxe : x = (names.length : Int) := by omega
      subst hxe
      have HK0 := HK.out
      rw [Int.toNat_natCast, List.take_length] at HK0
      have HKA := Aside0.mk (World.ownsMap.alloc HK0 (.map #[] 0))
      have HMA : Aside0 (OwnsKv (wr.alloc (.map #[] 0)) wr.heap.size 0 (mset [])) := ⟨World.ownsMap_made _ _ _ _⟩
      have HXA := Aside0.mk (below_alloc HX.out (.map #[] 0))
      have HKB : Aside0 (w.heap.size < wr.heap.size) := ⟨World.ownsMap.lt HK0⟩
      clear HK0
      go_wp2_with (at_range; refine wpList_range_own _ rfl _ 84 rfl 9 9 keyedS Try.underlying84 _ b n D rfl (own_K_below HO.out HXA.out) ?_; intro w0 hrg0 hg0 hs0; have HRG := Aside0.mk hrg0; have HG0 := Aside0.mk hg0; clear hrg0 hg0 hs0)
      have e : (wr.alloc (.map #[] 0)).heap.size = wr.heap.size + 1 := by simp
      rw [e] at HRG
      clear e
      generalize hrb : wr.heap.size = rb at *
      generalize hr : rb + 1 = r at *
      have HRR : Aside0 (r = rb + 1) := ⟨hr.symm⟩
      clear hr hrb
      go_loopw [9] (fun _ wr => ∃ (left : Lit → Bool) (cnt : Nat) (ks : List (List UInt8)) (nm : Nat), Aside0 (wr.ranges Try.prog 9 (plainElem Try.prog 9) b r n D left cnt) ∧ Aside0 (OwnsKv wr rb nm (mset ((ks.filter (fun k => !gone names k)).map (pairAt D)))) ∧ Aside0 (wr.ownsMap Try.prog 9 (unitElem (H := Unit)) w.heap.size names.length (keyset names)) ∧ Aside0 (nm + cnt ≤ Maps.size D) ∧ Aside0 (Collected D left ks) ∧ Aside0 (Below w.heap.size w wr)) (fun _ wr => wr.rangeLeft b r)
      case atStart => exact ⟨_, _, [], 0, HRG, ⟨World.ownsMap.kept HMA.out HG0.out (by simp)⟩, ⟨World.ownsMap.kept HKA.out HG0.out (by simp)⟩, ⟨by simp⟩, ⟨Collected.start D⟩, ⟨HXA.out.grown HG0.out HXA.out.size (fun j hj => by cases hj)⟩⟩
      case round =>
        obtain ⟨left, cnt, ks, nm, HR, HM2, HK, HN, HC, HB2⟩ := hrel
        go_wp2_with (at_next; refine wpList_next_ranges _ rfl _ rfl 9 keyedS (plainElem Try.prog 9) encStr Value.string (fun key kl hk => by obtain ⟨x, hx, _⟩ := Maps.keyOf_str Try.underlying9 hk; exact ⟨x, hx⟩) (fun v y hv => by obtain ⟨c, rfl, _⟩ := plainElem_string_inv Try.underlying9 hv; exact ⟨c, rfl⟩) b r n _ _ _ rfl HR.out ?_ ?_)
        · intro hc0 hl0
          have HL := Aside0.mk hl0
          clear hc0 hl0
          have HP := Aside0.mk (HC.out.perm HO.out keyedS Try.underlying9 HL.out)
          go_wp2
          go_ret
          exact ⟨_, rfl, Nat.le_of_lt HKB.out, HB2.out, ks, HP.out, nm, HM2.out⟩
        · intro x c kl yd yp w2 cnt2 hkey hlk hv hat hrg2 hlt2 hg2 hs2 hen
          obtain ⟨x', ex, rfl, hxl2⟩ := Maps.keyOf_str Try.underlying9 hkey
          obtain rfl : x = x' := encStr_inj ex
          obtain ⟨c', ec, ey, hcl⟩ := plainElem_string_inv Try.underlying9 hv
          injection ec with ec
          subst ec
          injection ey with ey1 ey2
          subst ey1 ey2
          have HV := Aside0.mk (val_of_entryB hat)
          have HC2 := Aside0.mk (HC.out.step hlk hat)
          have HR2 := Aside0.mk hrg2
          have HM3 := Aside0.mk (World.ownsMap.kept HM2.out hg2 (fun e => by have := HRR.out; injection e with e; omega))
          have HK3 := Aside0.mk (World.ownsMap.kept HK.out hg2 (fun e => by have := HRR.out; have := HKB.out; injection e with e; omega))
          have HB3 := Aside0.mk (HB2.out.grown hg2 HB2.out.size (fun j hj => by cases hj; have := HRR.out; have := HKB.out; omega))
          have HLT := Aside0.mk hlt2
          have HKX := Aside0.mk hkey
          have HVX := Aside0.mk hv
          have HN3 : Aside0 (nm + 1 + cnt2 ≤ Maps.size D) := ⟨by have := HN.out; omega⟩
          clear hkey hlk hv hat hrg2 hlt2 hg2 hs2 ex hxl2 hcl
          have hhas := has_keyset names x
          generalize hgx : gone names x = gx at *
          have HFS := Aside0.mk (filter_snoc names ks x)
          rw [hgx] at HFS
          cases gx
          · go_wp2_with (first | (at_lookup; refine wpList_lookup_own_unit _ rfl _ _ 116 rfl 9 104 keyedS Try.underlying116 (zeroUnit _) w.heap.size names.length (keyset names) rfl HK3.out _ _ rfl HKX.out ?_) | (at_mapUpdate; refine wpList_mapUpdate_own _ rfl _ _ _ 84 rfl 9 9 keyedS Try.underlying84 (plainElem Try.prog 9) rb nm _ rfl (World.ownsMap.alloc HM3.out _) (by have := HN3.out; unfold maxLen; omega) _ _ _ rfl rfl HKX.out _ [] HVX.out ?_; intro w3 hown3 hg3; have HM4 := Aside0.mk hown3; have HG3 := Aside0.mk hg3; have HB4 := Aside0.mk (Below.grown (below_alloc HB3.out _) hg3 (below_alloc HB3.out _).size (fun j hj => by cases hj; exact Nat.le_of_lt HKB.out)); have HK4 := Aside0.mk (World.ownsMap.kept (World.ownsMap.alloc HK3.out _) hg3 (fun e => by have := HKB.out; injection e with e; omega)); have HR3 := Aside0.mk (World.ranges.kept (World.ranges.kept HR2.out (grown_of_below (below_alloc (Below.refl _ _) _) none) (by simp) (by simp)) hg3 (fun e => by have := HBL.out; have := HKB.out; injection e with e; omega) (fun e => by have := HRR.out; injection e with e; omega)); clear hown3 hg3))
            go_frame
            go_roundw
            case rel => exact ⟨_, cnt2, ks ++ [x], nm + 1, HR3, ⟨by rw [HFS.out, if_neg (by simp), List.map_append, List.map_cons, List.map_nil, ← mset_add _ D _ x c HV.out rfl]; exact HM4.out⟩, HK4, HN3, HC2, HB4⟩
            case measure => rw [HR3.out.left_eq, HR.out.left_eq]; exact HLT.out
          · go_wp2_with (at_lookup; refine wpList_lookup_own_unit _ rfl _ _ 116 rfl 9 104 keyedS Try.underlying116 (zeroUnit _) w.heap.size names.length (keyset names) rfl HK3.out _ _ rfl HKX.out ?_)
            go_roundw
            case rel => exact ⟨_, cnt2, ks ++ [x], nm, ⟨World.ranges.kept HR2.out (grown_of_below (below_alloc (Below.refl _ _) _) none) (by simp) (by simp)⟩, ⟨by rw [HFS.out, if_pos rfl, List.append_nil]; exact World.ownsMap.alloc HM3.out _⟩, ⟨World.ownsMap.alloc HK3.out _⟩, ⟨by have := HN3.out; omega⟩, HC2, ⟨below_alloc HB3.out _⟩⟩
            case measure => rw [(World.ranges.kept HR2.out (grown_of_below (below_alloc (Below.refl _ _) _) none) (by simp) (by simp)).left_eq, HR.out.left_eq]; exact HLT.out
end Go.Proofs.Ytikhlolhodgegaa.Q
