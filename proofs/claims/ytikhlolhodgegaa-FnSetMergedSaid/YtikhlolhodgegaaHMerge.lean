/- Merging sets of labels: what LabelSet.Merge and impl.SetMerge return. No condition beyond the lengths named. -/
import Derived.Test.YtikhlolhodgegaaHSortedSet
set_option linter.unusedVariables false
set_option linter.unusedSimpArgs false
namespace Go.Proofs.Ytikhlolhodgegaa.Q
open Go.RowKit Go.Proofs.YtikhlolhodgegaaW.PrintWords Go.Proofs.YtikhlolhodgegaaW.PrintLast Go.Proofs.YtikhlolhodgegaaW.PrintMore
open Go.Maps (Keyed string_keyed)
open Go.Proofs (encStr)
attribute [local go_sem] max2_int min2_int max_two min_two max_three min_three max_four min_four
def pairAt (D : DataW Unit) (k : List UInt8) : S26 := ⟨byB k, valD D (byB k)⟩
theorem val_of_entryB {D : DataW Unit} {x : List UInt8} {c : ByteArray} (hat : ∀ zd, D.atKey (.string x) zd = .lit (.string c.data.toList)) : c = valD D (byB x) := valD_of (hat _)
theorem mset_add (D D0 : DataW Unit) (l : List S26) (x : List UInt8) (c : ByteArray) (hc : c = valD D0 (byB x)) (h : D = mset l) : D.put (.string x) (.lit (.string c.data.toList)) = mset (l ++ [pairAt D0 x]) := by
  rw [mset_snoc, h, hc]; rfl
theorem run_makeMap_hint {P : Program} {t k e : TypeId} (hu : P.underlying t = some (.map k e)) (n : Int) (w : World) : (Instr.makeMap t (some (.int .i64 n))).run P w = .ok (.map (some w.heap.size)) (w.alloc (.map #[] 0)) := by
  simp [Instr.makeMap, run_underlying hu, asInt, asIntOf]
set_option maxRecDepth 100000 in
set_option maxHeartbeats 1600000 in
theorem merge_calls (b1 n1 b2 n2 : Nat) (D1 D2 : DataW Unit) (w : World) (h1 : OwnsSet w b1 n1 D1) (h2 : OwnsSet w b2 n2 D2) (z1 : Maps.size D1 ≤ 1000000000) (z2 : Maps.size D2 ≤ 1000000000) :
    Calls Try.prog 57 #[.map (some b1), .map (some b2)] w fun e w' => ∃ b, e = .returned (.map (some b)) ∧ w.heap.size ≤ b ∧ Below w.heap.size w w' ∧ ∃ (k1 k2 : List (List UInt8)) (n : Nat), k1.Perm (strKeys D1) ∧ k2.Perm (strKeys D2) ∧ OwnsSet w' b n (mset (k1.map (pairAt D1) ++ k2.map (pairAt D2))) := by
  have hl1 := World.ownsMap.lt h1
  have hl2 := World.ownsMap.lt h2
  have H1 := Aside0.mk h1
  have H2 := Aside0.mk h2
  have L1 := Aside0.mk hl1
  have L2 := Aside0.mk hl2
  clear h1 h2 hl1 hl2
  have hmh := fun (n : Int) (w : World) => run_makeMap_hint (P := Try.prog) Try.underlying65 n w
  have HB := Aside0.mk (below_alloc (Below.refl w.heap.size w) (.map #[] 0))
  have HM : Aside0 (OwnsSet (w.alloc (.map #[] 0)) w.heap.size 0 (mset [])) := ⟨World.ownsMap_made _ _ _ _⟩
  go_enter Try.func57, Try.ntmps57
  go_wp2_with (first | (at_len; refine wpList_len_own _ rfl _ 65 rfl 105 110 Try.underlying65 _ b1 n1 _ rfl H1.out ?_) | (at_range; refine wpList_range_own _ rfl _ 65 rfl 105 110 keyed67 Try.underlying65 _ b1 n1 D1 rfl (own_R_below H1.out (below_alloc (Below.refl _ _) _)) ?_; intro w0 hrg0 hg0 hs0; have HRG := Aside0.mk hrg0; have HG0 := Aside0.mk hg0; clear hrg0 hg0 hs0))
  go_frame
  generalize hr : (w.alloc (.map #[] 0)).heap.size = r at *
  have HRR : Aside0 (r = w.heap.size + 1) := ⟨by rw [← hr]; simp⟩
  clear hr
  go_loopw [6] (fun _ wr => ∃ (left : Lit → Bool) (cnt : Nat) (ss : List (List UInt8)) (nm : Nat), Aside0 (wr.ranges Try.prog 105 (plainElem Try.prog 110) b1 r n1 D1 left cnt) ∧ Aside0 (OwnsSet wr w.heap.size nm (mset (ss.map (pairAt D1)))) ∧ Aside0 (nm + cnt ≤ Maps.size D1) ∧ Aside0 (Collected D1 left ss) ∧ Aside0 (Below w.heap.size w wr)) (fun _ wr => wr.rangeLeft b1 r)
  case atStart => exact ⟨_, _, [], 0, HRG, ⟨World.ownsMap.kept HM.out HG0.out (by simp)⟩, ⟨by simp⟩, ⟨Collected.start D1⟩, ⟨HB.out.grown HG0.out HB.out.size (fun j hj => by cases hj)⟩⟩
  case round =>
    obtain ⟨left, cnt, ss, nm, HR, HM, HN, HC, HB⟩ := hrel
    go_wp2_with (at_next; refine wpList_next_ranges _ rfl _ rfl 105 keyed67 (plainElem Try.prog 110) encStr Value.string (fun key kl hk => by obtain ⟨x, hx, _⟩ := Maps.keyOf_str Try.underlying105 hk; exact ⟨x, hx⟩) (fun v y hv => by obtain ⟨c, rfl, _⟩ := plainElem_string_inv Try.underlying110 hv; exact ⟨c, rfl⟩) b1 r n1 _ _ _ rfl HR.out ?_ ?_)
    · intro hc0 hl0
      have HL := Aside0.mk hl0
      clear hc0 hl0
      have HP1 := Aside0.mk (HC.out.perm H1.out keyed67 Try.underlying105 HL.out)
      have HRL : Aside0 (w.heap.size < wr.heap.size) := ⟨World.ownsMap.lt HM.out⟩
      have HNA : Aside0 (nm ≤ Maps.size D1) := ⟨by have := HN.out; omega⟩
      go_wp2_with (at_range; refine wpList_range_own _ rfl _ 65 rfl 105 110 keyed67 Try.underlying65 _ b2 n2 D2 rfl (own_R_below H2.out HB.out) ?_; intro w5 hrg5 hg5 hs5; have HRG5 := Aside0.mk hrg5; have HM5 := Aside0.mk (World.ownsMap.kept HM.out hg5 (by simp)); have HB5 := Aside0.mk (HB.out.grown hg5 HB.out.size (fun j hj => by cases hj)); clear hrg5 hg5 hs5)
      go_frame
      generalize hr2 : wr.heap.size = r2 at *
      have HRS : Aside0 (w.heap.size < r2) := HRL
      clear hr2
      go_loopw [8] (fun _ wx => ∃ (left : Lit → Bool) (cnt : Nat) (tt : List (List UInt8)) (nm : Nat), Aside0 (wx.ranges Try.prog 105 (plainElem Try.prog 110) b2 r2 n2 D2 left cnt) ∧ Aside0 (OwnsSet wx w.heap.size nm (mset (ss.map (pairAt D1) ++ tt.map (pairAt D2)))) ∧ Aside0 (nm + cnt ≤ Maps.size D1 + Maps.size D2) ∧ Aside0 (Collected D2 left tt) ∧ Aside0 (Below w.heap.size w wx)) (fun _ wx => wx.rangeLeft b2 r2)
      case atStart => exact ⟨_, _, [], nm, HRG5, ⟨by rw [List.map_nil, List.append_nil]; exact HM5.out⟩, ⟨by have := HNA.out; omega⟩, ⟨Collected.start D2⟩, HB5⟩
      case round =>
        obtain ⟨left, cnt, tt, nm, HR, HM, HN, HC, HB⟩ := hrel
        go_wp2_with (at_next; refine wpList_next_ranges _ rfl _ rfl 105 keyed67 (plainElem Try.prog 110) encStr Value.string (fun key kl hk => by obtain ⟨x, hx, _⟩ := Maps.keyOf_str Try.underlying105 hk; exact ⟨x, hx⟩) (fun v y hv => by obtain ⟨c, rfl, _⟩ := plainElem_string_inv Try.underlying110 hv; exact ⟨c, rfl⟩) b2 r2 n2 _ _ _ rfl HR.out ?_ ?_)
        · intro hc0 hl0
          have HL := Aside0.mk hl0
          clear hc0 hl0
          have HP2 := Aside0.mk (HC.out.perm H2.out keyed67 Try.underlying105 HL.out)
          go_wp2
          go_ret
          exact ⟨_, rfl, Nat.le_refl _, HB.out, ss, tt, nm, HP1.out, HP2.out, HM.out⟩
        · intro x c kl yd yp w2 cnt2 hkey hlk hv hat hrg2 hlt hg2 hs2 hen
          obtain ⟨x', ex, rfl, hxl⟩ := Maps.keyOf_str Try.underlying105 hkey
          obtain rfl : x = x' := encStr_inj ex
          obtain ⟨c', ec, ey, hcl⟩ := plainElem_string_inv Try.underlying110 hv
          injection ec with ec
          subst ec
          injection ey with ey1 ey2
          subst ey1 ey2
          have HV := Aside0.mk (val_of_entryB hat)
          have HC2 := Aside0.mk (HC.out.step hlk hat)
          have HR2 := Aside0.mk hrg2
          have HM2 := Aside0.mk (World.ownsMap.kept HM.out hg2 (fun e => by have := HRS.out; injection e with e; omega))
          have HB2 := Aside0.mk (HB.out.grown hg2 HB.out.size (fun j hj => by cases hj; have := HRS.out; omega))
          have HLT := Aside0.mk hlt
          have HKX := Aside0.mk hkey
          have HVX := Aside0.mk hv
          have HN2 : Aside0 (nm + 1 + cnt2 ≤ Maps.size D1 + Maps.size D2) := ⟨by have := HN.out; omega⟩
          clear hkey hlk hv hat hrg2 hlt hg2 hs2 ex hxl hcl
          go_wp2_with (at_mapUpdate; refine wpList_mapUpdate_own _ rfl _ _ _ 65 rfl 105 110 keyed67 Try.underlying65 (plainElem Try.prog 110) w.heap.size nm _ rfl HM2.out (by have := HN2.out; unfold maxLen; omega) _ _ _ rfl rfl HKX.out _ [] HVX.out ?_; intro w3 hown3 hg3; have HM3 := Aside0.mk hown3; have HG3 := Aside0.mk hg3; have HB3 := Aside0.mk (HB2.out.grown hg3 HB2.out.size (fun j hj => by cases hj; exact Nat.le_refl _)); clear hown3 hg3)
          have HR3 := Aside0.mk (World.ranges.kept HR2.out HG3.out (fun e => by have := L2.out; injection e with e; omega) (fun e => by have := HRS.out; injection e with e; omega))
          go_frame
          go_roundw
          case rel => exact ⟨_, cnt2, tt ++ [x], nm + 1, HR3, ⟨by rw [List.map_append, List.map_cons, List.map_nil, ← List.append_assoc, ← mset_add _ D2 _ x c HV.out rfl]; exact HM3.out⟩, HN2, HC2, HB3⟩
          case measure => rw [HR3.out.left_eq, HR.out.left_eq]; exact HLT.out
    · intro x c kl yd yp w2 cnt2 hkey hlk hv hat hrg2 hlt hg2 hs2 hen
      obtain ⟨x', ex, rfl, hxl⟩ := Maps.keyOf_str Try.underlying105 hkey
      obtain rfl : x = x' := encStr_inj ex
      obtain ⟨c', ec, ey, hcl⟩ := plainElem_string_inv Try.underlying110 hv
      injection ec with ec
      subst ec
      injection ey with ey1 ey2
      subst ey1 ey2
      have HV := Aside0.mk (val_of_entryB hat)
      have HC2 := Aside0.mk (HC.out.step hlk hat)
      have HR2 := Aside0.mk hrg2
      have HM2 := Aside0.mk (World.ownsMap.kept HM.out hg2 (fun e => by have := HRR.out; injection e with e; omega))
      have HB2 := Aside0.mk (HB.out.grown hg2 HB.out.size (fun j hj => by cases hj; have := HRR.out; omega))
      have HLT := Aside0.mk hlt
      have HKX := Aside0.mk hkey
      have HVX := Aside0.mk hv
      have HN2 : Aside0 (nm + 1 + cnt2 ≤ Maps.size D1) := ⟨by have := HN.out; omega⟩
      clear hkey hlk hv hat hrg2 hlt hg2 hs2 ex hxl hcl
      go_wp2_with (at_mapUpdate; refine wpList_mapUpdate_own _ rfl _ _ _ 65 rfl 105 110 keyed67 Try.underlying65 (plainElem Try.prog 110) w.heap.size nm _ rfl HM2.out (by have := HN2.out; unfold maxLen; omega) _ _ _ rfl rfl HKX.out _ [] HVX.out ?_; intro w3 hown3 hg3; have HM3 := Aside0.mk hown3; have HG3 := Aside0.mk hg3; have HB3 := Aside0.mk (HB2.out.grown hg3 HB2.out.size (fun j hj => by cases hj; exact Nat.le_refl _)); clear hown3 hg3)
      have HR3 := Aside0.mk (World.ranges.kept HR2.out HG3.out (fun e => by have := L1.out; injection e with e; omega) (fun e => by have := HRR.out; injection e with e; omega))
      go_frame
      go_roundw
      case rel => exact ⟨_, cnt2, ss ++ [x], nm + 1, HR3, ⟨by rw [List.map_append, List.map_cons, List.map_nil, ← mset_add _ D1 _ x c HV.out rfl]; exact HM3.out⟩, HN2, HC2, HB3⟩
      case measure => rw [HR3.out.left_eq, HR.out.left_eq]; exact HLT.out
end Go.Proofs.Ytikhlolhodgegaa.Q
