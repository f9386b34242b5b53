/- Labels of the program as pairs of the library, and their order: what impl.PairBefore returns. No condition beyond the bounds named. -/
import Derived.Test.YtbcijcmmpbkkbaaHKinds
import Derived.WalkLawsBesides
namespace Go.Proofs.Ytbcijcmmpbkkbaa.Q
open Go.RowKit Go.Proofs.YtbcijcmmpbkkbaaW.PrintWords Go.Proofs.YtbcijcmmpbkkbaaW.PrintLast Go.Proofs.YtbcijcmmpbkkbaaW.PrintMore
attribute [local go_sem] max2_int min2_int max_two min_two max_three min_three max_four min_four
def lessLP (x y : S26) : Bool := if strGt x.f0 y.f0 = true then false else if Op.bytesLess x.f0.toList y.f0.toList = true then true else if strGt x.f1 y.f1 = true then false else Op.bytesLess x.f1.toList y.f1.toList

set_option maxRecDepth 100000 in
set_option maxHeartbeats 800000 in
theorem lessLP_calls (A0 : Option Addr) (c0 : Nat) (l0 : List S26) (i j : Int) (w : World) (hr0 : Kd.C (ptrK 70 k26) w A0 l0.length l0) (hi0 : 0 ≤ i) (hi : i < (l0.length : Int)) (hj0 : 0 ≤ j) (hj : j < (l0.length : Int)) :
    Calls Try.prog 44 #[.slice A0 l0.length c0, .int .i64 i, .int .i64 j] w fun e w' => e = .returned (.bool (lessLP (rd_T26 l0 i) (rd_T26 l0 j))) ∧ Drawn0 w w' := by
  obtain ⟨ad, b, c, rfl, hp, hb, hk⟩ := at_ptr hr0 z26 i hi0 hi
  obtain ⟨ad', b', c', e, hp', hb', hk'⟩ := at_ptr hr0 z26 j hj0 hj
  cases e
  have HC := Aside0.mk hr0
  clear hr0
  change k26.K w (rd_T26 l0 i) c at hk
  change k26.K w (rd_T26 l0 j) c' at hk'
  generalize rd_T26 l0 i = p at *
  generalize rd_T26 l0 j = q at *
  obtain rfl := k26_open hk
  obtain rfl := k26_open hk'
  clear hk hk'
  have x0 := (blk_cell hb 0).trans rfl
  have x1 := (blk_cell hb 1).trans rfl
  have y0 := (blk_cell hb' 0).trans rfl
  have y1 := (blk_cell hb' 1).trans rfl
  clear hb hb'
  have q1 := eq_true hi0
  have q2 := eq_true hi
  have q3 := eq_true hj0
  have q4 := eq_true hj
  cases h1 : Op.bytesLess p.f0.toList q.f0.toList
  · cases h2 : (p.f0.toList == q.f0.toList)
    · go_enter Try.func44, Try.ntmps44
      go_wp2
      iterate 4 (try (go_quiet (fail); go_wp2))
      go_ret
      exact ⟨by simp [lessLP, strGt, h1, h2], by repeat (first | exact Drawn0.refl _ | apply Drawn0.step)⟩
    · cases h3 : Op.bytesLess p.f1.toList q.f1.toList
      · cases h4 : (p.f1.toList == q.f1.toList)
        all_goals
          go_enter Try.func44, Try.ntmps44
          go_wp2
          iterate 4 (try (go_quiet (fail); go_wp2))
          go_ret
          exact ⟨by simp [lessLP, strGt, h1, h2, h3, h4], by repeat (first | exact Drawn0.refl _ | apply Drawn0.step)⟩
      · go_enter Try.func44, Try.ntmps44
        go_wp2
        iterate 4 (try (go_quiet (fail); go_wp2))
        go_ret
        exact ⟨by simp [lessLP, strGt, h1, h2, h3], by repeat (first | exact Drawn0.refl _ | apply Drawn0.step)⟩
  · go_enter Try.func44, Try.ntmps44
    go_wp2
    iterate 4 (try (go_quiet (fail); go_wp2))
    go_ret
    exact ⟨by simp [lessLP, strGt, h1], by repeat (first | exact Drawn0.refl _ | apply Drawn0.step)⟩
theorem take_step26 (l : List S26) (x : Int) (h0 : 0 ≤ x) (h1 : x < (l.length : Int)) : l.take (x + 1).toNat = l.take x.toNat ++ [rd_T26 l x] := by
  obtain ⟨n, rfl⟩ := Int.eq_ofNat_of_zero_le h0
  have e : ((n : Int) + 1).toNat = n + 1 := by omega
  rw [e, Int.toNat_natCast, List.take_succ_eq_append_getElem (by omega)]
  simp [rd_T26, List.getD_eq_getElem?_getD, List.getElem?_eq_getElem (show n < l.length by omega)]
theorem info66 : (Try.prog.info? 66).map (fun i => (i.zero, i.size, i.bytes)) = some (some (.pointer none), 1, 8) := by kernel_rfl
def impl_PairBefore.f (l0 : List (S26)) (a1 : Int) (a2 : Int) : Option (Bool) :=
  if l0.length ≤ 10000000000 ∧ 0 ≤ a1 ∧ a1 < (l0.length : Int) ∧ 0 ≤ a2 ∧ a2 < (l0.length : Int) then some (lessLP (rd_T26 l0 a1) (rd_T26 l0 a2)) else none
set_option maxRecDepth 100000 in
set_option maxHeartbeats 800000 in
theorem impl_PairBefore.calls (A0 : Option Addr) (c0 : Nat) (l0 : List (S26)) (a1 : Int) (a2 : Int) (r : Bool) (w : World) (hr0 : Kd.C k26 w A0 l0.length l0) (hc0 : l0.length ≤ c0) (h : impl_PairBefore.f l0 a1 a2 = some r) :
    Calls Try.prog 14 #[.slice A0 l0.length c0, .int .i64 a1, .int .i64 a2] w fun e w' => e = .returned (.bool r) ∧ Below w.heap.size w w' := by
  unfold impl_PairBefore.f at h
  split at h
  case isFalse => cases h
  rename_i hh
  obtain ⟨hlen, h1, h2, h3, h4⟩ := hh
  obtain rfl := Option.some.inj h
  clear h
  have hu26 := Try.underlying26
  have hu70 := Try.underlying70
  have HR0 := Aside0.mk hr0
  have HC0 := Aside0.mk hc0
  clear hr0 hc0
  have HB := Aside0.mk (Below.refl w.heap.size w)
  go_enter Try.func14, Try.ntmps14
  go_wp2
  go_loopw [7, 12] (fun v3 v8 w' => ∃ x : Int, 0 ≤ x ∧ x ≤ (l0.length : Int) ∧ v8 = .int .i64 x ∧ Aside0 (Kd.R (ptrK 70 k26) 66 w' w.heap.size (fun _ => True) v3 (l0.take x.toNat)) ∧ Aside0 (Below w.heap.size w w')) (fun _ v8 _ => ((l0.length : Int) - intOf v8).toNat)
  case atStart => exact ⟨0, by omega, by omega, rfl, ⟨by simpa using Kd.R_nil _ _ _ _ _⟩, HB⟩
  case round =>
    obtain ⟨x, hx, hxl, rfl, HO, HB⟩ := hrel
    by_cases hlt : x < (l0.length : Int)
    · obtain ⟨ad, e1, hx0, hx1⟩ := at_T26 HR0.out x hx hlt
      cases e1
      replace hx0 := (HB.out.cell (World.block_lt_of_cell? w _ hx0)).trans hx0
      replace hx1 := (HB.out.cell (World.block_lt_of_cell? w _ hx1)).trans hx1
      have hp := eq_true hx
      have hq := eq_true hlt
      have hst := Aside0.mk (take_step26 l0 x hx hlt)
      generalize rd_T26 l0 x = p at *
      go_wp2_with (first | (at_builtin; refine Kd.R_append (ptrK 70 k26) (w0 := w) w.heap.size rfl (.tmp 16) (.tmp 23) 65 66 (.pointer none) 8 rfl Try.underlying65 info66 rfl (by decide) (by omega) u7 (l0.take x.toNat) p [.pointer (some ⟨wr.heap.size + 1, 0, none⟩)] (fun _ => True) (fun k => k = wr.heap.size + 1) rfl (by first | (go_simp; done) | (go_simp; rfl)) ?aP ?aK (fun _ _ => trivial) (Kd.R_alloc (Kd.R_alloc HO.out _) _) (below_alloc (below_alloc HB.out _) _) ?aS ?aL ?_; (case aP => exact ⟨wr.heap.size + 1, [.string p.f0, .string p.f1], rfl, rfl, by have := HB.out.size; omega, by simpa using blk_new (wr.alloc (.cells #[.string p.f0, .string p.f1] 26)) (.cells #[.string p.f0, .string p.f1] 70 (0, 0)), k26_mkM _ _ _ p⟩); (case aK => rintro k rfl; refine ⟨trivial, fun hk => ?_⟩; have := own_lt (Kd.R_own HO.out).choose_spec _ hk.symm; omega); (case aS => have := HB.out.size; simp; omega); (case aL => rw [List.length_take]; omega); intro v1 w2 ho hb hg2 hat; have HO2 := Aside0.mk ho; have HB2 := Aside0.mk hb; clear ho hb hg2 hat HO HB))
      go_roundw
      case rel => exact ⟨x + 1, by omega, by omega, rfl, ⟨by rw [hst.out]; exact HO2.out⟩, HB2⟩
      case measure => simp [intOf]; omega
    · have hxe : x = (l0.length : Int) := by omega
      subst hxe
      have HO := HO.out
      simp only [Int.toNat_natCast, List.take_length] at HO
      obtain ⟨A, c, rfl, hc, hC⟩ := Kd.R_reads HO
      have HD := Aside0.mk hC
      clear HO hC
      go_wp2_with (go_at_call 44; refine (lessLP_calls _ _ _ _ _ _ HD.out h1 h2 h3 h4).mono ?_; rintro e w1 ⟨rfl, hd⟩; have HE := Aside0.mk (HB.out.trans (hd.below.mono HB.out.size)); clear hd)
      go_ret
      exact ⟨rfl, HE.out⟩
end Go.Proofs.Ytbcijcmmpbkkbaa.Q
