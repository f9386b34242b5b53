/- The fingerprint of a set and its signature: what impl.SetPrint and impl.Signature return. No condition beyond the lengths named. -/
import Derived.Test.YtikhlolhodgegaaHPrint
set_option linter.unusedVariables false
set_option linter.unusedSimpArgs false
namespace Go.Proofs.Ytikhlolhodgegaa.Q
open Go.RowKit Go.Proofs.YtikhlolhodgegaaW.PrintWords Go.Proofs.YtikhlolhodgegaaW.PrintLast Go.Proofs.YtikhlolhodgegaaW.PrintMore
open Go.Maps (Keyed string_keyed)
open Go.WideElems (Fit)
attribute [local go_sem] max2_int min2_int max_two min_two max_three min_three max_four min_four
def stepP (h : Int) (p : S26) : Int := fnvB (fnvS (fnvB (fnvS h p.f0) 255) p.f1) 255
def printV (l : List S26) : Int := l.foldl stepP 14695981039346656037
theorem sum_print (D : DataW Unit) (ns : List ByteArray) : sumL D ns = printV (ns.map (pairOf D)) := by
  unfold sumL printV
  rw [List.foldl_map]
  rfl
theorem sum_is (l : List S26) (ks : List (List UInt8)) (h : ks.Perm (strKeys (mset l))) : sumL (mset l) (srt ks) = printV ((setGo (l.map conv) []).map unconv) := by
  rw [sum_print, sortedSet_is l ks h]
def impl_SetPrint.f (l0 : List (S26)) : Option (Int) := if l0.length ≤ 300000000 ∧ shortPairs l0 then some (printV ((setGo (l0.map conv) []).map unconv)) else none
set_option maxRecDepth 100000 in
set_option maxHeartbeats 400000 in
theorem impl_SetPrint.calls (A0 : Option Addr) (c0 : Nat) (l0 : List (S26)) (r : Int) (w : World) (hr0 : Kd.C k26 w A0 l0.length l0) (hc0 : l0.length ≤ c0) (h : impl_SetPrint.f l0 = some r) :
    Calls Try.prog 48 #[.slice A0 l0.length c0] w fun e w' => e = .returned (.int .u64 r) ∧ Below w.heap.size w w' := by
  unfold impl_SetPrint.f at h
  split at h
  case isFalse => cases h
  rename_i hh
  obtain ⟨hlen, hs⟩ := hh
  obtain rfl := Option.some.inj h
  clear h
  go_enter Try.func48, Try.ntmps48
  go_wp2_with fail
  refine (labelSet_calls _ _ _ _ hr0 hc0 (by omega) hs).mono ?_
  rintro e w1 ⟨b, rfl, hbb, ho, hb1⟩
  have HO := Aside0.mk ho
  have HB := Aside0.mk hb1
  clear ho hb1 hbb hr0
  go_wp2_with fail
  go_enter Try.func78, Try.ntmps78
  go_wp2_with fail
  refine (print_calls _ _ _ _ HO.out (by have := size_mset l0; omega)).mono ?_
  rintro e w2 ⟨ks, rfl, hp, hb2⟩
  have HB2 := Aside0.mk (below_step HB.out hb2)
  have HP := Aside0.mk (sum_is l0 ks hp)
  clear hp hb2
  go_wp2
  go_ret
  exact ⟨by rw [← HP.out]; rfl, HB2.out⟩
set_option maxRecDepth 100000 in
set_option maxHeartbeats 800000 in
theorem sigloop (A0 : Option Addr) (c0 : Nat) (l0 : List S26) (w : World) (hr0 : Kd.C k26 w A0 l0.length l0) (_hc0 : l0.length ≤ c0) (hlen : l0.length ≤ 300000000) (hs : shortPairs l0) :
    Calls Try.prog 50 #[.slice A0 l0.length c0] w fun e w' => e = .returned (.int .u64 (printV ((setGo (l0.map conv) []).map unconv))) ∧ Below w.heap.size w w' := by
  have hu26 := Try.underlying26
  have hmm := @run_makeMap Try.prog
  have HR0 := Aside0.mk hr0
  have HS := Aside0.mk hs
  clear hr0 hs
  have HB := Aside0.mk (Below.refl w.heap.size w)
  go_enter Try.func50, Try.ntmps50
  go_wp2
  go_loopw [9] (fun v9 w' => ∃ x : Int, 0 ≤ x ∧ x ≤ (l0.length : Int) ∧ v9 = .int .i64 x ∧ Aside0 (OwnsKv w' w.heap.size x.toNat (mset (l0.take x.toNat))) ∧ Aside0 (Below w.heap.size w w')) (fun v9 _ => ((l0.length : Int) - intOf v9).toNat)
  case atStart => exact ⟨0, by omega, by omega, rfl, ⟨World.ownsMap_made _ _ _ _⟩, ⟨below_alloc HB.out _⟩⟩
  case round =>
    obtain ⟨x, hx, hxl, rfl, HO, HB⟩ := hrel
    by_cases hlt : x < (l0.length : Int)
    · obtain ⟨ad, e1, hx0, hx1⟩ := at_T26 HR0.out x hx hlt
      cases e1
      replace hx0 := (HB.out.cell (World.block_lt_of_cell? w _ hx0)).trans hx0
      replace hx1 := (HB.out.cell (World.block_lt_of_cell? w _ hx1)).trans hx1
      have hp := eq_true hx
      have hq := eq_true hlt
      have hst := take_step26 l0 x hx hlt
      generalize rd_T26 l0 x = p at *
      have hsp := HS.out p hst.2
      have hst := Aside0.mk hst.1
      have HK : Aside0 (keyOf Try.prog 9 (.string p.f0) = some (.string p.f0.data.toList)) := ⟨WideMaps.keyOf_string_mk Try.underlying9 (by unfold maxLen; omega)⟩
      have HV : Aside0 (plainElem (H := Unit) Try.prog 9 (.string p.f1) = some (.lit (.string p.f1.data.toList), [])) := ⟨plainElem_string Try.underlying9 (by unfold maxLen; omega)⟩
      clear hsp
      go_wp2_with (at_mapUpdate; refine wpList_mapUpdate_own _ rfl _ _ _ 83 rfl 9 9 keyedS Try.underlying83 (plainElem Try.prog 9) w.heap.size x.toNat (mset (l0.take x.toNat)) rfl (World.ownsMap.alloc HO.out _) (by unfold maxLen; omega) _ _ _ rfl rfl HK.out _ [] HV.out ?_; intro w1 hown1 hgrow1; have HO2 := Aside0.mk hown1; have HB2 := Aside0.mk (Below.grown (below_alloc HB.out _) hgrow1 (below_alloc HB.out _).size (fun j hj => by cases hj; exact Nat.le_refl _)); clear hown1 hgrow1)
      go_roundw
      case rel => exact ⟨x + 1, by omega, by omega, rfl, ⟨by rw [hst.out, mset_snoc]; have e : (x + 1).toNat = x.toNat + 1 := by omega
                                                             rw [e]; exact HO2.out⟩, HB2⟩
      case measure => simp [intOf]; omega
    · have hxe : x = (l0.length : Int) := by omega
      subst hxe
      have HO := HO.out
      simp only [Int.toNat_natCast, List.take_length] at HO
      have HO := Aside0.mk HO
      go_wp2_with fail
      refine (sign_calls _ _ _ _ HO.out (by have := size_mset l0; omega)).mono ?_
      rintro e w2 ⟨ks, rfl, hp, hb2⟩
      have HB2 := Aside0.mk (HB.out.trans (hb2.mono HB.out.size))
      have HP := Aside0.mk (sum_is l0 ks hp)
      clear hp hb2
      go_wp2
      go_ret
      exact ⟨by rw [← HP.out]; rfl, HB2.out⟩
def impl_Signature.f (l0 : List (S26)) : Option (Int) := if l0.length ≤ 300000000 ∧ shortPairs l0 then some (printV ((setGo (l0.map conv) []).map unconv)) else none
theorem impl_Signature.calls (A0 : Option Addr) (c0 : Nat) (l0 : List (S26)) (r : Int) (w : World) (hr0 : Kd.C k26 w A0 l0.length l0) (hc0 : l0.length ≤ c0) (h : impl_Signature.f l0 = some r) :
    Calls Try.prog 50 #[.slice A0 l0.length c0] w fun e w' => e = .returned (.int .u64 r) ∧ Below w.heap.size w w' := by
  unfold impl_Signature.f at h
  split at h
  case isFalse => cases h
  rename_i hh
  obtain rfl := Option.some.inj h
  exact sigloop A0 c0 l0 w hr0 hc0 hh.1 hh.2
end Go.Proofs.Ytikhlolhodgegaa.Q
