/- The text of pairs: what the template's String, impl.PairsText and impl.KVText return. No condition beyond the lengths named. -/
import Derived.Test.YtikhlolhodgegaaHNames
import Derived.Test.YtikhlolhodgegaaHBuild
import Derived.Test.YtikhlolhodgegaaHSBuild
set_option linter.unusedVariables false
set_option linter.unusedSimpArgs false
namespace Go.Proofs.Ytikhlolhodgegaa.Q
open Go.RowKit Go.Lib Go.Proofs.YtikhlolhodgegaaW.PrintWords Go.Proofs.YtikhlolhodgegaaW.PrintLast Go.Proofs.YtikhlolhodgegaaW.PrintMore
attribute [local go_sem] max2_int min2_int max_two min_two max_three min_three max_four min_four
def pairB (p : S115) : List UInt8 := p.f0.data.toList ++ [61] ++ p.f1.data.toList
def txtL : List S115 → List UInt8
  | [] => []
  | [p] => pairB p
  | p :: q :: r => pairB p ++ [44, 32] ++ txtL (q :: r)
theorem txtL_cons (p : S115) (r : List S115) (h : r ≠ []) : txtL (p :: r) = pairB p ++ [44, 32] ++ txtL r := by
  cases r with
  | nil => exact absurd rfl h
  | cons q r => rfl
theorem pairB_len (p : S115) : (pairB p).length = p.f0.size + 1 + p.f1.size := by
  unfold pairB
  simp only [List.length_append, List.length_cons, List.length_nil, Array.length_toList]
  rfl
/-- Not too many, none of them long. -/
def smallT (l : List S115) : Prop := l.length ≤ 10000 ∧ ∀ p ∈ l, p.f0.size ≤ 2147483648 ∧ p.f1.size ≤ 2147483648
theorem txtL_len (l : List S115) (h : ∀ p ∈ l, p.f0.size ≤ 2147483648 ∧ p.f1.size ≤ 2147483648) : (txtL l).length ≤ l.length * 4294967300 := by
  induction l with
  | nil => simp [txtL]
  | cons p r ih =>
    have h1 := h p (by simp)
    have h2 := ih (fun q hq => h q (List.mem_cons_of_mem _ hq))
    have h3 := pairB_len p
    by_cases hr : r = []
    · subst hr
      simp only [txtL, List.length_cons, List.length_nil]
      omega
    · rw [txtL_cons p r hr]
      simp only [List.length_append, List.length_cons, List.length_nil]
      omega
theorem BAt.more {B b : Nat} {p : Value} {acc : List UInt8} {w : World} (h : BAt B b p acc w) (o : Obj) : BAt B b p acc (w.alloc o) := by
  obtain ⟨hB, v, hb, ho, hne⟩ := h
  have hlt : b < w.heap.size := (Array.getElem?_eq_some_iff.1 hb).1
  refine ⟨hB, v, (Lib.alloc_old w o b hlt).trans hb, World.ownsRow.kept ho (grown_of_below (below_alloc (Below.refl w.heap.size w) o) none) ?_, hne⟩
  cases hv : v.ownBlock
  · exact .inl rfl
  · exact .inr (by simp)
theorem IsB.more {B b : Nat} {acc : List UInt8} {w : World} (h : IsB B b acc w) (o : Obj) : IsB B b acc (w.alloc o) :=
  h.elim (fun x => .inl (BAt.more x o)) (fun x => .inr (BAt.more x o))
theorem acc_two (acc : List UInt8) (p : S115) : ((acc ++ p.f0.data.toList) ++ [61]) ++ p.f1.data.toList = acc ++ pairB p := by simp [pairB, List.append_assoc]
set_option maxRecDepth 100000 in
set_option maxHeartbeats 1600000 in
theorem tText_calls (A0 : Option Addr) (c0 : Nat) (l0 : List S115) (w : World) (hr0 : Kd.C k115 w A0 l0.length l0) (_hc0 : l0.length ≤ c0) (hs : smallT l0) :
    Calls Try.prog 71 #[.slice A0 l0.length c0] w fun e w' => e = .returned (.string ⟨(txtL l0).toArray⟩) ∧ Below w.heap.size w w' := by
  have hu115 := Try.underlying115
  have HR0 := Aside0.mk hr0
  have HTL : Aside0 ((txtL l0).length ≤ 70000000000000) := ⟨by have := txtL_len l0 hs.2; have := hs.1; omega⟩
  have hlen := hs.1
  clear hr0 hs
  have HB := Aside0.mk (below_alloc (Below.refl w.heap.size w) (.cells #[.pointer none, .slice none 0 0] 120))
  have HU : Aside0 (IsB w.heap.size w.heap.size [] (w.alloc (.cells #[.pointer none, .slice none 0 0] 120))) := ⟨fresh_isBuilder _ _ _⟩
  go_enter Try.func71, Try.ntmps71
  go_wp2
  go_loopw [9] (fun v9 wr => ∃ (x : Int) (acc : List UInt8), 0 ≤ x ∧ x ≤ (l0.length : Int) ∧ v9 = .int .i64 x ∧ Aside0 (acc ++ txtL (l0.drop x.toNat) = txtL l0) ∧ Aside0 (IsB w.heap.size w.heap.size acc wr) ∧ Aside0 (Below w.heap.size w wr)) (fun v9 _ => ((l0.length : Int) - intOf v9).toNat)
  case atStart => exact ⟨0, [], by omega, by omega, rfl, ⟨by simp⟩, HU, HB⟩
  case round =>
    obtain ⟨x, acc, hx, hxl, rfl, HT, HU, HX⟩ := hrel
    by_cases hlt : x < (l0.length : Int)
    · obtain ⟨ad, e1, hx0, hx1⟩ := at_T115 (Kd.C_below HR0.out HX.out) x hx hlt
      cases e1
      have hp := eq_true hx
      have hq := eq_true hlt
      have hds : l0.drop x.toNat = rd_T115 l0 x :: l0.drop (x + 1).toNat := by
        obtain ⟨n, rfl⟩ := Int.eq_ofNat_of_zero_le hx
        have e : ((n : Int) + 1).toNat = n + 1 := by omega
        have e2 : rd_T115 l0 n = l0[n] := by simp [rd_T115, List.getD_eq_getElem?_getD, List.getElem?_eq_getElem (show n < l0.length by omega)]
        rw [e, e2, Int.toNat_natCast]
        exact List.drop_eq_getElem_cons (by omega)
      have HT2 : Aside0 (acc ++ txtL (rd_T115 l0 x :: l0.drop (x + 1).toNat) = txtL l0) := ⟨by rw [← hds]; exact HT.out⟩
      generalize rd_T115 l0 x = p at *
      clear hds HT
      have HU1 := Aside0.mk (IsB.more HU.out (.cells #[.string p.f0, .string p.f1] 115))
      have HX1 := Aside0.mk (below_alloc HX.out (.cells #[.string p.f0, .string p.f1] 115))
      have HLN : Aside0 (acc.length + p.f0.size + 1 + p.f1.size ≤ 70000000000000) := ⟨by
        have h1 := congrArg List.length HT2.out
        have h2 := HTL.out
        have h3 := pairB_len p
        have h4 : (pairB p).length ≤ (txtL (p :: l0.drop (x + 1).toNat)).length := by
          by_cases hr : l0.drop (x + 1).toNat = []
          · rw [hr]; exact Nat.le_refl _
          · rw [txtL_cons p _ hr]; simp only [List.length_append]; omega
        rw [List.length_append] at h1
        omega⟩
      have HBK : Aside0 ((wr.alloc (.cells #[.string p.f0, .string p.f1] 115)).heap[wr.heap.size]? = some (.cells #[.string p.f0, .string p.f1] 115 (0, 0))) := ⟨heap_alloc_new _ _⟩
      have HBN : Aside0 (wr.heap.size ≠ w.heap.size) := ⟨by
        have hb : w.heap.size < wr.heap.size := by
          rcases HU.out with h | h
          · exact h.lt
          · exact h.lt
        omega⟩
      go_wp2_with fail
      refine (writeString_calls _ _ _ p.f0 _ HU1.out (by have := HLN.out; omega) HX1.out.size).mono ?_
      rintro e w2 ⟨rfl, hu2, hB2, hk2⟩
      have HU2 := Aside0.mk hu2
      have HX2 := Aside0.mk (HX1.out.trans hB2)
      have HBK2 := Aside0.mk (hk2 _ _ _ _ HBK.out HBN.out (by decide))
      clear hu2 hB2 hk2
      go_wp2_with fail
      refine (writeRune_calls _ _ _ 61 (by decide) _ HU2.out (by have := HLN.out; simp only [List.length_append, Array.length_toList]; have e : p.f0.data.size = p.f0.size := rfl; omega) HX2.out.size).mono ?_
      rintro e w3 ⟨⟨n3, rfl⟩, hu3, hB3, hk3⟩
      have HU3 := Aside0.mk hu3
      have HX3 := Aside0.mk (HX2.out.trans hB3)
      have HBK3 := Aside0.mk (hk3 _ _ _ _ HBK2.out HBN.out (by decide))
      have hy0 : w3.cell? ⟨wr.heap.size, 0, none⟩ = some (.string p.f0) := by rw [Lib.cell_of_heap HBK3.out]; rfl
      have hy1 : w3.cell? ⟨wr.heap.size, 1, none⟩ = some (.string p.f1) := by rw [Lib.cell_of_heap HBK3.out]; rfl
      clear hu3 hB3 hk3
      go_wp2_with fail
      refine (writeString_calls _ _ _ p.f1 _ HU3.out (by have := HLN.out; simp only [List.length_append, Array.length_toList, List.length_cons, List.length_nil]; have e : p.f0.data.size = p.f0.size := rfl; omega) HX3.out.size).mono ?_
      rintro e w4 ⟨rfl, hu4, hB4, hk4⟩
      rw [acc_two] at hu4
      have HU4 := Aside0.mk hu4
      have HX4 := Aside0.mk (HX3.out.trans hB4)
      clear hu4 hB4 hk4
      by_cases hlast : x < (l0.length : Int) - 1
      · have hq2 := eq_true hlast
        have HNE : Aside0 (l0.drop (x + 1).toNat ≠ []) := ⟨fun e => by have := List.drop_eq_nil_iff.1 e; omega⟩
        have HTN : Aside0 ((acc ++ pairB p ++ [44, 32]) ++ txtL (l0.drop (x + 1).toNat) = txtL l0) := ⟨by have := HT2.out; rw [txtL_cons p _ HNE.out] at this; simpa [List.append_assoc] using this⟩
        go_wp2_with fail
        refine (writeString_calls _ _ _ (⟨#[44, 32]⟩ : ByteArray) _ HU4.out (by have h1 := congrArg List.length HTN.out; have h2 := HTL.out; rw [List.length_append, List.length_append] at h1; have e : (⟨#[44, 32]⟩ : ByteArray).size = 2 := rfl; simp at h1; simp; omega) HX4.out.size).mono ?_
        rintro e w5 ⟨rfl, hu5, hB5, hk5⟩
        have HU5 := Aside0.mk hu5
        have HX5 := Aside0.mk (HX4.out.trans hB5)
        clear hu5 hB5 hk5
        go_wp2
        go_roundw
        case rel => exact ⟨x + 1, acc ++ pairB p ++ [44, 32], by omega, by omega, by go_simp, HTN, HU5, HX5⟩
        case measure => simp [intOf]; omega
      · have hq2 := eq_false hlast
        have HTN : Aside0 ((acc ++ pairB p) ++ txtL (l0.drop (x + 1).toNat) = txtL l0) := ⟨by
          have e : l0.drop (x + 1).toNat = [] := List.drop_eq_nil_iff.2 (by omega)
          have := HT2.out
          rw [e] at this ⊢
          show acc ++ pairB p ++ [] = _
          rw [List.append_nil]
          exact this⟩
        go_wp2
        go_roundw
        case rel => exact ⟨x + 1, acc ++ pairB p, by omega, by omega, by go_simp, HTN, HU4, HX4⟩
        case measure => simp [intOf]; omega
    · have hxe : x = (l0.length : Int) := by omega
      subst hxe
      have HTE : Aside0 (acc = txtL l0) := ⟨by have := HT.out; rw [Int.toNat_natCast, List.drop_length] at this; simpa [txtL] using this⟩
      go_wp2_with fail
      refine (Try.Builder_String_any _ _ _ _ HU.out HX.out.size).mono ?_
      rintro e w4 ⟨rfl, hB4⟩
      have HX4 := Aside0.mk (HX.out.trans hB4)
      clear hB4
      go_wp2
      go_ret
      exact ⟨by rw [HTE.out]; rfl, HX4.out⟩
def smallP (l : List S26) : Prop := l.length ≤ 10000 ∧ ∀ p ∈ l, p.f0.size ≤ 2147483648 ∧ p.f1.size ≤ 2147483648
instance (l : List S26) : Decidable (smallP l) := inferInstanceAs (Decidable (_ ∧ ∀ p ∈ l, _))
theorem kvO_mem {l : List S26} {p : S26} (h : p ∈ kvO l) : p ∈ l := by
  unfold kvO kvOrd at h
  obtain ⟨q, hq, rfl⟩ := List.mem_map.1 h
  have hX : q ∈ setGo (l.map conv) [] := by
    rcases List.mem_append.1 hq with h | h
    · exact (List.mem_filter.1 h).1
    · exact (List.mem_filter.1 h).1
  have hm := List.mem_reverse.1 (List.mem_of_find?_eq_some ((mem_setGo_iff _ _).1 hX))
  obtain ⟨p, hp, rfl⟩ := List.mem_map.1 hm
  exact hp
theorem small_map {l : List S26} (h : smallP l) : smallT (l.map inP) := ⟨by rw [List.length_map]; exact h.1, fun p hp => by
  obtain ⟨q, hq, rfl⟩ := List.mem_map.1 hp
  exact h.2 q hq⟩
theorem small_kvO {l : List S26} (h : smallP l) : smallP (kvO l) := ⟨Nat.le_trans (kvO_len l) h.1, fun p hp => h.2 p (kvO_mem hp)⟩
theorem small_short {l : List S26} (h : smallP l) : shortPairs l := fun p hp => by
  have := h.2 p hp
  omega
def impl_PairsText.f (l0 : List (S26)) : Option (ByteArray) := if smallP l0 then some ⟨(txtL (l0.map inP)).toArray⟩ else none
set_option maxRecDepth 100000 in
set_option maxHeartbeats 800000 in
theorem impl_PairsText.calls (A0 : Option Addr) (c0 : Nat) (l0 : List (S26)) (r : ByteArray) (w : World) (hr0 : Kd.C k26 w A0 l0.length l0) (hc0 : l0.length ≤ c0) (h : impl_PairsText.f l0 = some r) :
    Calls Try.prog 42 #[.slice A0 l0.length c0] w fun e w' => e = .returned (.string r) ∧ Below w.heap.size w w' := by
  unfold impl_PairsText.f at h
  split at h
  case isFalse => cases h
  rename_i hs
  obtain rfl := Option.some.inj h
  clear h
  have HR0 := Aside0.mk hr0
  have HS := Aside0.mk (small_map hs)
  have hl0 := hs.1
  clear hr0 hs
  go_enter Try.func42, Try.ntmps42
  go_wp2_with fail
  refine (impl_inPairs.calls _ _ _ _ _ _ HR0.out hc0 (inPairs_is l0 (by omega) (l0.length + 1) (by omega))).mono ?_
  rintro e w1 ⟨v1, rfl, hR1, hB1⟩
  have HB1 := Aside0.mk hB1
  obtain ⟨A, c, e4, hc4, hC4⟩ := Kd.R_reads hR1
  subst e4
  have HC4 := Aside0.mk hC4
  clear hB1 hR1 hC4
  generalize hL : l0.map inP = L at *
  have HL := Aside0.mk hL
  clear hL
  go_wp2_with fail
  refine (tText_calls _ _ _ _ HC4.out hc4 HS.out).mono ?_
  rintro e w3 ⟨rfl, hB3⟩
  have HB3 := Aside0.mk (below_step HB1.out hB3)
  clear hB3
  go_wp2
  go_ret
  exact ⟨by rw [HL.out]; rfl, HB3.out⟩
set_option maxRecDepth 100000 in
set_option maxHeartbeats 800000 in
theorem kvString_calls (b n : Nat) (D : DataW Unit) (w : World) (hown : OwnsKv w b n D) (hsz : Maps.size D ≤ 1000000000) (hsm : ∀ (ks : List (List UInt8)) (s : Nat), ks.Perm (strKeys D) → KvHead s ks → smallT ((kvL s ks).map (tpair D))) :
    Calls Try.prog 70 #[.map (some b)] w fun e w' => ∃ (ks : List (List UInt8)), ks.Perm (strKeys D) ∧ ∃ s : Nat, KvHead s ks ∧ e = .returned (.string ⟨(txtL ((kvL s ks).map (tpair D))).toArray⟩) ∧ Below w.heap.size w w' := by
  have HO := Aside0.mk hown
  have HSM := Aside0.mk hsm
  clear hown hsm
  go_enter Try.func70, Try.ntmps70
  go_wp2_with fail
  refine (kvSorted_calls _ _ _ _ HO.out hsz).mono ?_
  rintro e w2 ⟨v, rfl, ks, hks, s, hh, hR, hB2⟩
  have HB2 := Aside0.mk hB2
  have HS := Aside0.mk (HSM.out ks s hks hh)
  obtain ⟨A, c, e4, hc4, hC4⟩ := Kd.R_reads hR
  subst e4
  have HC4 := Aside0.mk hC4
  have HKS := Aside0.mk hks
  have HHH := Aside0.mk hh
  clear hB2 hR hC4 hks hh
  generalize hL : (kvL s ks).map (tpair D) = L at *
  have HL := Aside0.mk hL
  clear hL
  go_wp2_with fail
  refine (tText_calls _ _ _ _ HC4.out hc4 HS.out).mono ?_
  rintro e w3 ⟨rfl, hB3⟩
  have HB3 := Aside0.mk (below_step HB2.out hB3)
  clear hB3
  go_wp2
  go_ret
  exact ⟨ks, HKS.out, s, HHH.out, by rw [HL.out]; rfl, HB3.out⟩
def impl_KVText.f (l0 : List (S26)) : Option (ByteArray) := if smallP l0 then some ⟨(txtL ((kvO l0).map inP)).toArray⟩ else none
theorem kvL_inP (l : List S26) (ks : List (List UInt8)) (h : ks.Perm (strKeys (mset l))) (s : Nat) (hh : KvHead s ks) : (kvL s ks).map (tpair (mset l)) = (kvO l).map inP := by
  rw [← kvOrd_is l ks h s hh, List.map_map]
  rfl
set_option maxRecDepth 100000 in
set_option maxHeartbeats 800000 in
theorem impl_KVText.calls (A0 : Option Addr) (c0 : Nat) (l0 : List (S26)) (r : ByteArray) (w : World) (hr0 : Kd.C k26 w A0 l0.length l0) (hc0 : l0.length ≤ c0) (h : impl_KVText.f l0 = some r) :
    Calls Try.prog 41 #[.slice A0 l0.length c0] w fun e w' => e = .returned (.string r) ∧ Below w.heap.size w w' := by
  unfold impl_KVText.f at h
  split at h
  case isFalse => cases h
  rename_i hs
  obtain rfl := Option.some.inj h
  clear h
  have HR0 := Aside0.mk hr0
  have HS0 := Aside0.mk (small_short hs)
  have HSM : Aside0 (∀ (ks : List (List UInt8)) (s : Nat), ks.Perm (strKeys (mset l0)) → KvHead s ks → smallT ((kvL s ks).map (tpair (mset l0)))) := ⟨fun ks s h1 h2 => by rw [kvL_inP l0 ks h1 s h2]; exact small_map (small_kvO hs)⟩
  have hl0 := hs.1
  clear hr0 hs
  go_enter Try.func41, Try.ntmps41
  go_wp2_with fail
  refine (kv_calls _ _ _ _ HR0.out hc0 (by omega) HS0.out).mono ?_
  rintro e w1 ⟨b1, rfl, hb1, ho1, hB1⟩
  have HO1 := Aside0.mk ho1
  have HB1 := Aside0.mk hB1
  clear hb1 ho1 hB1
  go_wp2_with fail
  refine (kvString_calls _ _ _ _ HO1.out (by have := size_mset l0; omega) HSM.out).mono ?_
  rintro e w2 ⟨ks, hks, s, hh, rfl, hB2⟩
  have HB2 := Aside0.mk (below_step HB1.out hB2)
  have HE := Aside0.mk (kvL_inP l0 ks hks s hh)
  clear hB2 hks hh
  go_wp2
  go_ret
  exact ⟨by rw [HE.out]; rfl, HB2.out⟩
end Go.Proofs.Ytikhlolhodgegaa.Q
