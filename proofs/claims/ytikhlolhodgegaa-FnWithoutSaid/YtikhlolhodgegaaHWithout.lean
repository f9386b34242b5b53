/- A set of labels without some names, as it is handed out: what impl.Without returns. No condition beyond the lengths named. -/
import Derived.Test.YtikhlolhodgegaaHKv1
import Derived.Test.YtikhlolhodgegaaHRemove
set_option linter.unusedVariables false
set_option linter.unusedSimpArgs false
namespace Go.Proofs.Ytikhlolhodgegaa.Q
open Go.RowKit Go.Proofs.YtikhlolhodgegaaW.PrintWords Go.Proofs.YtikhlolhodgegaaW.PrintLast Go.Proofs.YtikhlolhodgegaaW.PrintMore
attribute [local go_sem] max2_int min2_int max_two min_two max_three min_three max_four min_four
theorem setGo_perm {Z Y : List S59} (hp : Z.Perm Y) (hY : SortedP Y) : setGo Z [] = Y := sorted_ext (setGo_sorted Z) hY fun q => by
  rw [mem_setGo_iff]
  constructor
  · intro h
    exact hp.mem_iff.1 (List.mem_reverse.1 (List.mem_of_find?_eq_some h))
  · intro hq
    cases hm : lastP Z (nm q) with
    | none =>
      have := List.find?_eq_none.1 hm q (List.mem_reverse.2 (hp.mem_iff.2 hq))
      simp at this
    | some m => rw [sorted_inj hY (hp.mem_iff.1 (List.mem_reverse.1 (List.mem_of_find?_eq_some hm))) hq (lastP_nm hm)]
def keepN (names : List ByteArray) (q : S59) : Bool := !gone names (nm q)
theorem without_is (l : List S26) (names : List ByteArray) (ks : List (List UInt8)) (h : ks.Perm (strKeys (mset l))) :
    setGo (((ks.filter (fun k => !gone names k)).map (pairAt (mset l))).map conv) [] = (setGo (l.map conv) []).filter (keepN names) := by
  refine setGo_perm ?_ (List.Pairwise.filter _ (setGo_sorted _))
  rw [keys_is] at h
  have h2 := h.filter (fun k => !gone names k)
  rw [List.filter_map] at h2
  have h3 := (h2.map (pairAt (mset l))).map conv
  rw [List.map_map, List.map_map] at h3
  rw [List.map_map]
  refine h3.trans ?_
  have e : ((setGo (l.map conv) []).filter ((fun k => !gone names k) ∘ nm)).map ((conv ∘ pairAt (mset l)) ∘ nm) = (setGo (l.map conv) []).filter (keepN names) := by
    refine (List.map_congr_left fun q hq => ?_).trans (List.map_id _)
    exact conv_pairAt l q (List.mem_filter.1 hq).1
  rw [← e]
  rw [List.map_map] 
def impl_Without.f (l0 : List (S26)) (l1 : List ByteArray) : Option ((List (S26))) := if l0.length ≤ 300000000 ∧ l1.length ≤ 300000000 ∧ shortPairs l0 ∧ (∀ s ∈ l1, s.size ≤ 140737488355328) then some ((kvOrd ((setGo (l0.map conv) []).filter (keepN l1))).map unconv) else none
set_option maxRecDepth 100000 in
set_option maxHeartbeats 800000 in
theorem impl_Without.calls (A0 : Option Addr) (c0 : Nat) (l0 : List (S26)) (A1 : Option Addr) (c1 : Nat) (l1 : List ByteArray) (r : List (S26)) (w : World) (hr0 : Kd.C k26 w A0 l0.length l0) (hc0 : l0.length ≤ c0) (hr1 : Kd.C Kd.string w A1 l1.length l1) (hc1 : l1.length ≤ c1) (h : impl_Without.f l0 l1 = some r) :
    Calls Try.prog 31 #[.slice A0 l0.length c0, .slice A1 l1.length c1] w fun e w' => ∃ v0_ : Value, e = .returned (v0_) ∧ Kd.R k26 26 w' w.heap.size (fun _ => True) v0_ r ∧ Below w.heap.size w w' := by
  unfold impl_Without.f at h
  split at h
  case isFalse => cases h
  rename_i hh
  obtain ⟨hl0, hl1, hs0, hs1⟩ := hh
  obtain rfl := Option.some.inj h
  clear h
  have HR0 := Aside0.mk hr0
  have HR1 := Aside0.mk hr1
  have HS0 := Aside0.mk hs0
  have HS1 : Aside0 (∀ s ∈ l1, s.size ≤ maxLen) := ⟨fun s hs => by have := hs1 s hs; unfold maxLen; omega⟩
  clear hr0 hr1 hs0 hs1
  go_enter Try.func31, Try.ntmps31
  go_wp2_with fail
  refine (kv_calls _ _ _ _ HR0.out hc0 (by omega) HS0.out).mono ?_
  rintro e w1 ⟨b1, rfl, hb1, ho1, hB1⟩
  have HO1 := Aside0.mk ho1
  have HB1 := Aside0.mk hB1
  have HR1' := Aside0.mk (Kd.C_below HR1.out hB1)
  clear hb1 ho1 hB1
  go_wp2_with fail
  refine (remove_calls _ _ _ _ _ _ _ HO1.out (by have := size_mset l0; omega) HR1'.out hc1 (by omega) HS1.out).mono ?_
  rintro e w2 ⟨b2, rfl, hb2, hB2, ks, hks, n2, ho2⟩
  have HB2 := Aside0.mk (below_step HB1.out hB2)
  have HO2 := Aside0.mk ho2
  have HE := Aside0.mk (without_is l0 l1 ks hks)
  have hlen : ((ks.filter (fun k => !gone l1 k)).map (pairAt (mset l0))).length ≤ l0.length := by
    rw [List.length_map]
    exact Nat.le_trans (List.length_filter_le _ _) (len_perm hks)
  clear hb2 hB2 ho2 hks
  generalize (ks.filter (fun k => !gone l1 k)).map (pairAt (mset l0)) = L2 at *
  go_wp2_with fail
  refine (kvSorted_calls _ _ _ _ HO2.out (by have := size_mset L2; omega)).mono ?_
  rintro e w3 ⟨v, rfl, ks3, hks3, s, hh3, hR3, hB3⟩
  have hlen3 := kvL_lenM hks3 hh3
  have HE3 : Aside0 (((kvL s ks3).map (tpair (mset L2))).map toP = kvO L2) := ⟨by rw [List.map_map]; exact kvOrd_is L2 ks3 hks3 s hh3⟩
  rw [← List.length_map (tpair (mset L2))] at hlen3
  clear hks3 hh3
  generalize (kvL s ks3).map (tpair (mset L2)) = L at *
  have HB3 := Aside0.mk (below_step HB2.out hB3)
  obtain ⟨A, c, e4, hc4, hC4⟩ := Kd.R_reads hR3
  subst e4
  have HC4 := Aside0.mk hC4
  clear hB3 hR3 hC4
  go_wp2_with fail
  have hpl := plain_is L (by omega) (L.length + 1) (by omega)
  refine (impl_plain.calls _ _ _ _ _ _ HC4.out hc4 hpl).mono ?_
  rintro e w4 ⟨v4, rfl, hR4, hB4⟩
  have HB4 := Aside0.mk (below_step HB3.out hB4)
  have HR4 := Aside0.mk (Kd.R_lower hR4 HB3.out.size)
  have HF : Aside0 (L.map toP = (kvOrd ((setGo (l0.map conv) []).filter (keepN l1))).map unconv) := ⟨by rw [HE3.out, ← HE.out]; rfl⟩
  clear hR4 hB4 hpl
  go_wp2
  go_ret
  exact ⟨_, rfl, by have := HR4.out; rwa [HF.out] at this, HB4.out⟩
end Go.Proofs.Ytikhlolhodgegaa.Q
