/- Equality of sets of labels: what LabelSet.Equal and impl.SetEqual return. No condition beyond the lengths named. -/
import Derived.Test.YtikhlolhodgegaaHSetBefore
set_option linter.unusedVariables false
set_option linter.unusedSimpArgs false
namespace Go.Proofs.Ytikhlolhodgegaa.Q
open Go.RowKit Go.Proofs.YtikhlolhodgegaaW.PrintWords Go.Proofs.YtikhlolhodgegaaW.PrintLast Go.Proofs.YtikhlolhodgegaaW.PrintMore
open Go.Maps (Keyed string_keyed)
open Go.Proofs (encStr)
attribute [local go_sem] max2_int min2_int max_two min_two max_three min_three max_four min_four
def okK (D1 D2 : DataW Unit) (x : List UInt8) : Bool := hasD D2 (byB x) && ((valD D2 (byB x)).toList == (valD D1 (byB x)).toList)
def eqV (D1 D2 : DataW Unit) : Bool := decide (Maps.size D1 = Maps.size D2) && (strKeys D1).all (okK D1 D2)
theorem all_perm {α : Type} (f : α → Bool) {l m : List α} (h : l.Perm m) : l.all f = m.all f := by
  refine Bool.eq_iff_iff.2 ?_
  rw [List.all_eq_true, List.all_eq_true]
  exact ⟨fun H x hx => H x (h.mem_iff.2 hx), fun H x hx => H x (h.mem_iff.1 hx)⟩
theorem has_key {w : World} {b n : Nat} {D : DataW Unit} (h : OwnsSet w b n D) {x : List UInt8} (hx : Maps.has D (.string x) = true) : x ∈ strKeys D := by
  obtain ⟨es, rfl⟩ := World.ownsMap.isMap h
  rw [Maps.has_eq, List.any_eq_true] at hx
  obtain ⟨p, hp, hs⟩ := hx
  have e : p.1 = .string x := by
    rcases Classical.em (p.1 = .string x) with h | h
    · exact h
    · rw [Maps.sameKey_ne h] at hs; cases hs
  refine List.mem_map.2 ⟨p, hp, ?_⟩
  rw [e]
  rfl
set_option maxRecDepth 100000 in
set_option maxHeartbeats 1600000 in
theorem equal_calls (b1 n1 b2 n2 : Nat) (D1 D2 : DataW Unit) (w : World) (h1 : OwnsSet w b1 n1 D1) (h2 : OwnsSet w b2 n2 D2) :
    Calls Try.prog 60 #[.map (some b1), .map (some b2)] w fun e w' => e = .returned (.bool (eqV D1 D2)) ∧ Below w.heap.size w w' := by
  have hl1 := World.ownsMap.lt h1
  have hl2 := World.ownsMap.lt h2
  have H1 := Aside0.mk h1
  have H2 := Aside0.mk h2
  have L1 := Aside0.mk hl1
  have L2 := Aside0.mk hl2
  clear h1 h2 hl1 hl2
  have HB := Aside0.mk (Below.refl w.heap.size w)
  go_enter Try.func60, Try.ntmps60
  by_cases c1 : Maps.size D1 = Maps.size D2
  case neg =>
    have c1i := (beq_eq_false_iff_ne (a := ((Maps.size D1 : Nat) : Int)) (b := ((Maps.size D2 : Nat) : Int))).2 (by omega)
    have c1n := eq_false c1
    have C1 := Aside0.mk c1
    clear c1
    go_wp2_with (first | (at_len; refine wpList_len_own _ rfl _ 65 rfl 105 110 Try.underlying65 _ b1 n1 _ rfl H1.out ?_) | (at_len; refine wpList_len_own _ rfl _ 65 rfl 105 110 Try.underlying65 _ b2 n2 _ rfl H2.out ?_))
    go_ret
    exact ⟨by rw [eqV, decide_eq_false C1.out, Bool.false_and]; rfl, HB.out⟩
  case pos =>
    have C1 := Aside0.mk c1
    go_wp2_with (first | (at_len; refine wpList_len_own _ rfl _ 65 rfl 105 110 Try.underlying65 _ b1 n1 _ rfl H1.out ?_; rw [c1]; clear c1) | (at_len; refine wpList_len_own _ rfl _ 65 rfl 105 110 Try.underlying65 _ b2 n2 _ rfl H2.out ?_) | (at_range; refine wpList_range_own _ rfl _ 65 rfl 105 110 keyed67 Try.underlying65 _ b1 n1 _ rfl H1.out ?_; intro w0 hrg0 hg0 hs0; have HRG := Aside0.mk hrg0; have HG0 := Aside0.mk hg0; clear hrg0 hg0 hs0))
    go_frame
    go_loopw [5] (fun _ wr => ∃ (left : Lit → Bool) (cnt : Nat) (ss : List (List UInt8)), Aside0 (wr.ranges Try.prog 105 (plainElem Try.prog 110) b1 w.heap.size n1 D1 left cnt) ∧ Aside0 (ss.all (okK D1 D2) = true) ∧ Aside0 (Collected D1 left ss) ∧ Aside0 (Below w.heap.size w wr)) (fun _ wr => wr.rangeLeft b1 w.heap.size)
    case atStart => exact ⟨_, _, [], HRG, ⟨rfl⟩, ⟨Collected.start D1⟩, ⟨HB.out.grown HG0.out (Nat.le_refl _) (fun j hj => by cases hj)⟩⟩
    case round =>
      obtain ⟨left, cnt, ss, HR, HA, HC, HB⟩ := hrel
      go_wp2_with (at_next; refine wpList_next_ranges _ rfl _ rfl 105 keyed67 (plainElem Try.prog 110) encStr Value.string (fun key kl hk => by obtain ⟨x, hx, _⟩ := Maps.keyOf_str Try.underlying105 hk; exact ⟨x, hx⟩) (fun v y hv => by obtain ⟨c, rfl, _⟩ := plainElem_string_inv Try.underlying110 hv; exact ⟨c, rfl⟩) b1 w.heap.size n1 _ _ _ rfl HR.out ?_ ?_)
      · intro hc0 hl0
        have HL := Aside0.mk hl0
        clear hc0 hl0
        have HP := Aside0.mk (HC.out.perm H1.out keyed67 Try.underlying105 HL.out)
        have HE : Aside0 (true = eqV D1 D2) := ⟨by rw [eqV, decide_eq_true C1.out, Bool.true_and, ← all_perm _ HP.out, HA.out]⟩
        go_wp2
        go_ret
        exact ⟨by rw [← HE.out]; rfl, HB.out⟩
      · intro x c kl yd yp w2 cnt2 hkey hlk hv hat hrg2 hlt hg2 hs2 hen
        obtain ⟨x', ex, rfl, hxl⟩ := Maps.keyOf_str Try.underlying105 hkey
        obtain rfl : x = x' := encStr_inj ex
        obtain ⟨c', ec, ey, hcl⟩ := plainElem_string_inv Try.underlying110 hv
        injection ec with ec
        subst ec
        injection ey with ey1 ey2
        subst ey1 ey2
        have HV := Aside0.mk (val_of_entryB hat)
        have HC2 := Aside0.mk (HC.out.step hlk hat)
        have HR2 := Aside0.mk hrg2
        have HB2 := Aside0.mk (HB.out.grown hg2 HB.out.size (fun j hj => by cases hj; exact Nat.le_refl _))
        have HO2 := Aside0.mk (own_R_below H2.out HB2.out)
        have HLT := Aside0.mk hlt
        have HKX : Aside0 (keyOf Try.prog 105 (encStr x) = some (.string (byB x).data.toList)) := ⟨hkey⟩
        have HIN : Aside0 (x ∈ strKeys D1) := ⟨has_key H1.out ((HC2.out.2 x).1 (by simp)).1⟩
        have HNO : Aside0 (okK D1 D2 x = false → false = eqV D1 D2) := ⟨fun h => by
          have : (strKeys D1).all (okK D1 D2) = false := List.all_eq_false.2 ⟨x, HIN.out, by rw [h]; simp⟩
          rw [eqV, this, Bool.and_false]⟩
        clear hkey hlk hv hat hrg2 hlt hg2 hs2 ex hxl hcl
        cases hb : hasD D2 (byB x)
        · have HE := Aside0.mk (HNO.out (by unfold okK; rw [hb]; rfl))
          have HHB := Aside0.mk hb
          clear hb
          go_wp2_with (at_lookup; refine lookup_str_ok _ rfl _ _ 65 rfl 105 110 keyed67 Try.underlying65 Try.underlying110 (zero68 _) b2 n2 D2 rfl HO2.out _ (byB x) rfl HKX.out false HHB.out ?_; intro s3 hs3 hsl3; clear hs3 hsl3)
          go_ret
          exact ⟨by rw [← HE.out]; rfl, HB2.out⟩
        have HHB := Aside0.mk hb
        generalize hv2 : valD D2 (byB x) = v2 at *
        cases hq : (v2.toList == c.toList)
        · have HE := Aside0.mk (HNO.out (by unfold okK; rw [hb, hv2, ← HV.out, hq]; rfl))
          have HV2 := Aside0.mk hv2
          clear hb hv2
          go_wp2_with (at_lookup; refine lookup_str_ok _ rfl _ _ 65 rfl 105 110 keyed67 Try.underlying65 Try.underlying110 (zero68 _) b2 n2 D2 rfl HO2.out _ (byB x) rfl HKX.out true HHB.out ?_; intro s3 hs3 hsl3; rw [HV2.out] at hs3; subst hs3; clear hsl3)
          go_ret
          exact ⟨by rw [← HE.out]; rfl, HB2.out⟩
        · have HOK : Aside0 (okK D1 D2 x = true) := ⟨by unfold okK; rw [hb, hv2, ← HV.out, hq]; rfl⟩
          have HV2 := Aside0.mk hv2
          clear hb hv2
          go_wp2_with (at_lookup; refine lookup_str_ok _ rfl _ _ 65 rfl 105 110 keyed67 Try.underlying65 Try.underlying110 (zero68 _) b2 n2 D2 rfl HO2.out _ (byB x) rfl HKX.out true HHB.out ?_; intro s3 hs3 hsl3; rw [HV2.out] at hs3; subst hs3; clear hsl3)
          go_roundw
          case rel => exact ⟨_, cnt2, ss ++ [x], HR2, ⟨by rw [List.all_append, HA.out]; simp [HOK.out]⟩, HC2, HB2⟩
          case measure => rw [HR2.out.left_eq, HR.out.left_eq]; exact HLT.out
theorem sub_len : ∀ (B A : List S59), SortedP A → SortedP B → (∀ q ∈ A, q ∈ B) → A.length ≤ B.length
  | _, [], _, _, _ => by simp
  | [], a :: A, _, _, h => by have := h a (by simp); cases this
  | b :: B, a :: A, hA, hB, h => by
    have hA' := List.pairwise_cons.1 hA
    have hB' := List.pairwise_cons.1 hB
    rcases List.mem_cons.1 (h a (by simp)) with e | ha
    · have := sub_len B A hA'.2 hB'.2 (fun q hq => by
        rcases List.mem_cons.1 (h q (List.mem_cons_of_mem _ hq)) with e2 | h2
        · have := hA'.1 q hq
          rw [e2, e] at this
          exact absurd this (List.lt_irrefl _)
        · exact h2)
      simpa using this
    · have := sub_len B (a :: A) hA hB'.2 (fun q hq => by
        rcases List.mem_cons.1 hq with e2 | h2
        · rw [e2]; exact ha
        · rcases List.mem_cons.1 (h q hq) with e3 | h3
          · have h4 := lt_trS (hB'.1 a ha) (hA'.1 q h2)
            rw [e3] at h4
            exact absurd h4 (List.lt_irrefl _)
          · exact h3)
      simp at this ⊢
      omega
theorem sub_eq : ∀ (A B : List S59), SortedP A → SortedP B → A.length = B.length → (∀ q ∈ A, q ∈ B) → A = B
  | [], [], _, _, _, _ => rfl
  | [], _ :: _, _, _, h, _ => by simp at h
  | _ :: _, [], _, _, h, _ => by simp at h
  | a :: A, b :: B, hA, hB, hl, h => by
    have hA' := List.pairwise_cons.1 hA
    have hB' := List.pairwise_cons.1 hB
    rcases List.mem_cons.1 (h a (by simp)) with e | ha
    · subst e
      congr 1
      refine sub_eq A B hA'.2 hB'.2 (by simpa using hl) (fun q hq => ?_)
      rcases List.mem_cons.1 (h q (List.mem_cons_of_mem _ hq)) with e2 | h2
      · have := hA'.1 q hq
        rw [e2] at this
        exact absurd this (List.lt_irrefl _)
      · exact h2
    · have := sub_len B (a :: A) hA hB'.2 (fun q hq => by
        rcases List.mem_cons.1 hq with e2 | h2
        · rw [e2]; exact ha
        · rcases List.mem_cons.1 (h q hq) with e3 | h3
          · have h4 := lt_trS (hB'.1 a ha) (hA'.1 q h2)
            rw [e3] at h4
            exact absurd h4 (List.lt_irrefl _)
          · exact h3)
      simp at this hl
      omega
instance : DecidableEq S59 := fun a b => match a, b with
  | ⟨a0, a1⟩, ⟨b0, b1⟩ => if h : a0 = b0 ∧ a1 = b1 then isTrue (by rw [h.1, h.2]) else isFalse (fun e => by injection e with e1 e2; exact h ⟨e1, e2⟩)
theorem ba_ext {a b : ByteArray} (h : a.toList = b.toList) : a = b := by
  rw [toL, toL] at h
  cases a; cases b
  congr 1
  exact Array.ext' h
theorem eqV_is (a b : List S26) : eqV (mset a) (mset b) = decide (setGo (a.map conv) [] = setGo (b.map conv) []) := by
  have sA := setGo_sorted (a.map conv)
  have sB := setGo_sorted (b.map conv)
  unfold eqV
  rw [size_is, size_is, keys_is]
  refine Bool.eq_iff_iff.2 ?_
  rw [Bool.and_eq_true, decide_eq_true_eq, decide_eq_true_eq, List.all_eq_true]
  constructor
  · rintro ⟨hl, h⟩
    refine sub_eq _ _ sA sB hl (fun q hq => ?_)
    have hk := h (nm q) (List.mem_map_of_mem hq)
    unfold okK at hk
    rw [Bool.and_eq_true, has_is] at hk
    obtain ⟨hk1, hk2⟩ := hk
    obtain ⟨q', hq'⟩ := Option.isSome_iff_exists.1 hk1
    have hv := val_at b (nm q) q' hq'
    have hva : valD (mset a) (byB (nm q)) = q.f1 := by rw [byB_nm, val_is a q hq]
    rw [hv, hva] at hk2
    have hn : nm q' = nm q := by simpa [atN] using List.find?_some hq'
    have e1 : q'.f1 = q.f1 := ba_ext (by simpa using hk2)
    have e0 : q'.f0 = q.f0 := ba_ext (by rw [toL, toL]; exact hn)
    have e : q' = q := by cases q'; cases q; simp_all
    rw [← e]
    exact List.mem_of_find?_eq_some hq'
  · intro h
    refine ⟨by rw [h], fun n hn => ?_⟩
    obtain ⟨q, hq, rfl⟩ := List.mem_map.1 hn
    have hq2 : q ∈ setGo (b.map conv) [] := by rw [← h]; exact hq
    unfold okK
    rw [has_is, Bool.and_eq_true]
    have hf : ((setGo (b.map conv) []).find? (atN (nm q))).isSome = true := List.find?_isSome.2 ⟨q, hq2, by simp [atN]⟩
    refine ⟨hf, ?_⟩
    rw [byB_nm, val_is a q hq, val_is b q hq2]
    simp
def impl_SetEqual.f (l0 : List (S26)) (l1 : List (S26)) : Option (Bool) := if l0.length ≤ 300000000 ∧ l1.length ≤ 300000000 ∧ shortPairs l0 ∧ shortPairs l1 then some (decide (setGo (l0.map conv) [] = setGo (l1.map conv) [])) else none
set_option maxRecDepth 100000 in
set_option maxHeartbeats 800000 in
theorem impl_SetEqual.calls (A0 : Option Addr) (c0 : Nat) (l0 : List (S26)) (A1 : Option Addr) (c1 : Nat) (l1 : List (S26)) (r : Bool) (w : World) (hr0 : Kd.C k26 w A0 l0.length l0) (hc0 : l0.length ≤ c0) (hr1 : Kd.C k26 w A1 l1.length l1) (hc1 : l1.length ≤ c1) (h : impl_SetEqual.f l0 l1 = some r) :
    Calls Try.prog 28 #[.slice A0 l0.length c0, .slice A1 l1.length c1] w fun e w' => e = .returned (.bool r) ∧ Below w.heap.size w w' := by
  unfold impl_SetEqual.f at h
  split at h
  case isFalse => cases h
  rename_i hh
  obtain ⟨hl0, hl1, hs0, hs1⟩ := hh
  obtain rfl := Option.some.inj h
  clear h
  have HR0 := Aside0.mk hr0
  have HR1 := Aside0.mk hr1
  have HS0 := Aside0.mk hs0
  have HS1 := Aside0.mk hs1
  clear hr0 hr1 hs0 hs1
  go_enter Try.func28, Try.ntmps28
  go_wp2_with fail
  refine (labelSet_calls _ _ _ _ HR0.out hc0 (by omega) HS0.out).mono ?_
  rintro e w1 ⟨b1, rfl, hb1, ho1, hB1⟩
  have HO1 := Aside0.mk ho1
  have HB1 := Aside0.mk hB1
  have HR1' := Aside0.mk (Kd.C_below HR1.out hB1)
  clear hb1 ho1 hB1
  go_wp2_with fail
  refine (labelSet_calls _ _ _ _ HR1'.out hc1 (by omega) HS1.out).mono ?_
  rintro e w2 ⟨b2, rfl, hb2, ho2, hB2⟩
  have HO2 := Aside0.mk ho2
  have HO1' := Aside0.mk (own_R_below HO1.out hB2)
  have HB2 := Aside0.mk (below_step HB1.out hB2)
  clear hb2 ho2 hB2
  go_wp2_with fail
  refine (equal_calls _ _ _ _ _ _ _ HO1'.out HO2.out).mono ?_
  rintro e w3 ⟨rfl, hB3⟩
  have HB3 := Aside0.mk (below_step HB2.out hB3)
  have HE := Aside0.mk (eqV_is l0 l1)
  clear hB3
  go_wp2
  go_ret
  exact ⟨by rw [← HE.out]; rfl, HB3.out⟩
end Go.Proofs.Ytikhlolhodgegaa.Q
