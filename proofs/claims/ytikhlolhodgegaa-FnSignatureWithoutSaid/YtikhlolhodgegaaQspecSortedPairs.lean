-- Printed for this seat by wip/pp.py of this repo; nothing here is trusted: Lean checks it.
import Derived.Test.YtikhlolhodgegaaQ0
import Derived.Test.YtikhlolhodgegaaHSpecSet
namespace Go.Proofs.Ytikhlolhodgegaa.Q
open Go.RowKit Go.Proofs.YtikhlolhodgegaaW.PrintWords Go.Proofs.YtikhlolhodgegaaW.PrintLast Go.Proofs.YtikhlolhodgegaaW.PrintMore
attribute [local go_sem] max2_int min2_int max_two min_two max_three min_three max_four min_four   -- for this text's walks alone
set_option linter.unusedVariables false
set_option linter.unusedSimpArgs false

/-! ### spec_SortedPairs: function 32 -/
def spec_SortedPairs.l0 : Nat → List (S59) → List (S59) → List (S59) → Int → Int → Option ((List (S59)))
  | 0, _, _, _, _, _ => none
  | k + 1, x3, x4, x5, x10, x11 => if x11 < x10 then (if 0 ≤ x11 then (if x11 < (x3.length : Int) then (if ((rd_T59 x3 x11).f0).toList = ([97, 108, 101, 114, 116, 110, 97, 109, 101] : List UInt8) then (if x4.length < 4398046511104 then (spec_SortedPairs.l0 k x3 (x4 ++ [(⟨(rd_T59 x3 x11).f0, (rd_T59 x3 x11).f1⟩ : S59)]) x5 x10 (wrap64 (x11 + 1))) else (none)) else (if x5.length < 4398046511104 then (spec_SortedPairs.l0 k x3 x4 (x5 ++ [(⟨(rd_T59 x3 x11).f0, (rd_T59 x3 x11).f1⟩ : S59)]) x10 (wrap64 (x11 + 1))) else (none))) else (none)) else (none)) else (if x4.length + x5.length < 4398046511104 then (some (x4 ++ x5)) else (none))
def spec_SortedPairs.f (k : Nat) (l0 : List (S59)) : Option ((List (S59))) := (spec_Set.f l0).bind fun t469 => (spec_SortedPairs.l0 k t469 ([] : List (S59)) ([] : List (S59)) (t469.length : Int) 0)
theorem spec_SortedPairs.mono_l : ∀ k, (∀ y0 y1 y2 y3 y4, LeO (spec_SortedPairs.l0 k y0 y1 y2 y3 y4) (spec_SortedPairs.l0 (k + 1) y0 y1 y2 y3 y4))
  | 0 => fun _ _ _ _ _ r h => by simp [spec_SortedPairs.l0] at h
  | k + 1 => by
    have ih0 := spec_SortedPairs.mono_l k
    · intro y0 y1 y2 y3 y4
      unfold spec_SortedPairs.l0
      repeat' first
      | (with_reducible exact ih0 _ _ _ _ _)
      | (with_reducible exact LeO.refl _)
      | (with_reducible exact LeO.none _)
      | (with_reducible refine LeO.ite ?_ ?_)
      | (with_reducible refine LeO.bind ?_ (fun _ => ?_))
      | exact ih0 _ _ _ _ _
      | exact LeO.none _
      | refine LeO.ite ?_ ?_
      | refine LeO.bind ?_ (fun _ => ?_)
theorem spec_SortedPairs.mono : ∀ a0 k, LeO (spec_SortedPairs.f k a0) (spec_SortedPairs.f (k + 1) a0) := by
  intro a0 k
  have ih0 := spec_SortedPairs.mono_l k
  unfold spec_SortedPairs.f
  repeat' first
      | (with_reducible exact ih0 _ _ _ _ _)
      | (with_reducible exact LeO.refl _)
      | (with_reducible exact LeO.none _)
      | (with_reducible refine LeO.ite ?_ ?_)
      | (with_reducible refine LeO.bind ?_ (fun _ => ?_))
      | exact ih0 _ _ _ _ _
      | exact LeO.none _
      | refine LeO.ite ?_ ?_
      | refine LeO.bind ?_ (fun _ => ?_)
set_option maxHeartbeats 8000000 in
set_option maxRecDepth 100000 in
theorem spec_SortedPairs.calls (k : Nat) (A0 : Option Addr) (c0 : Nat) (l0 : List (S59)) (r : List (S59)) (w : World) (hr0 : Kd.C k59 w A0 l0.length l0) (hc0 : l0.length ≤ c0) (h : spec_SortedPairs.f k l0 = some r) :
    Calls Try.prog 32 #[.slice A0 l0.length c0] w fun e w' => ∃ v0_ : Value, e = .returned (v0_) ∧ Kd.R k59 59 w' w.heap.size (fun _ => True) v0_ r ∧ Below w.heap.size w w' := by
  have hu59 := Try.underlying59
  have HR0 := Aside0.mk hr0
  have HC0 := Aside0.mk hc0
  clear hr0 hc0
  have HB := Aside0.mk (Below.refl w.heap.size w)
  have H : ((spec_Set.f l0).bind fun t469 => (spec_SortedPairs.l0 k t469 ([] : List (S59)) ([] : List (S59)) (t469.length : Int) 0)) = some r := h
  clear h
  replace H := Option.bind_eq_some_iff.mp H
  obtain ⟨t469, A20, H⟩ := H
  replace H : (spec_SortedPairs.l0 k t469 ([] : List (S59)) ([] : List (S59)) (t469.length : Int) 0) = some r := H
  have A2 := Aside0.mk A20
  clear A20
  have H' := Aside0.mk H
  clear H
  go_enter Try.func32, Try.ntmps32
  go_wp2_with (first | ((with_reducible refine gate_callee (f := 19) rfl ?_); refine goesL_ (some 8) rfl rfl Try.func19 (by kernel_rfl) rfl #[.slice A0 l0.length c0] rfl (by (try simp only [List.map_toArray, List.map_cons, List.map_nil]); first | done | rfl | (simp only [List.length_drop, List.length_take]; rfl)) ?_; (with_reducible refine (spec_Set.calls _ _ l0 t469 _ ?side1 ?side2 A2.out).mono ?_); (case side1 => repeat (first | exact HR0.out | (with_reducible refine Kd.C_alloc ?_ _) | (with_reducible refine Kd.C_drewN ?_ _) | (with_reducible refine Kd.C_drew ?_))); (case side2 => exact HC0.out); rintro e w3 ⟨v470, rfl, ho0, hb⟩; refine ⟨_, rfl, ?_⟩; have n0_ := Aside0.mk (Kd.R_lower ho0 (below_size (by repeat (first | (with_reducible first | exact HB.out | apply below_alloc | apply pw_below_drewN | apply below_drew1) | exact HB.out)))); have n1_ := Aside0.mk (below_step (by repeat (first | (with_reducible first | exact HB.out | apply below_alloc | apply pw_below_drewN | apply below_drew1) | exact HB.out)) hb); clear HB; have HO471 := n0_; have HB := n1_; clear n0_ n1_; (try clear hb); (try clear hb2); (try clear hk); (try clear hi); (try clear ho0); obtain ⟨Ao4, co4, eo4⟩ := Kd.R_slice HO471.out; subst eo4))
  go_loopg [4, 5, 11] k (fun kq v4 v5 v11 w' => ∃ (x4_1 : List (S59)) (x5_1 : List (S59)) (x11_1 : Int), v11 = .int .i64 x11_1 ∧ Aside0 (spec_SortedPairs.l0 kq t469 x4_1 x5_1 (t469.length : Int) x11_1 = some r) ∧ Aside0 (kq ≤ k) ∧ Aside0 (Kd.R k59 59 w' w.heap.size (fun k_ => some k_ ≠ (v4 : Value).ownBlock ∧ some k_ ≠ (v5 : Value).ownBlock) (.slice Ao4 t469.length co4) t469) ∧ Aside0 (Kd.R k59 59 w' w.heap.size (fun k_ => some k_ ≠ ((.slice Ao4 t469.length co4) : Value).ownBlock ∧ some k_ ≠ (v5 : Value).ownBlock) v4 x4_1) ∧ Aside0 (Kd.R k59 59 w' w.heap.size (fun k_ => some k_ ≠ ((.slice Ao4 t469.length co4) : Value).ownBlock ∧ some k_ ≠ (v4 : Value).ownBlock) v5 x5_1) ∧ Aside0 (Below w.heap.size w w'))
  case atStart => exact ⟨(([] : List (S59))), (([] : List (S59))), (0), (by first | rfl | (simp; done) | (simp [*]; done) | (simp [*, q_isEmpty]; done)), H', ⟨Nat.le_refl _⟩, ⟨by (with_reducible repeat (first | apply Kd.R_alloc | apply Kd.R_drewN | apply Kd.R_drew)); exact Kd.R_mono HO471.out (fun _ hk => ⟨(by simp [Value.ownBlock]), (by simp [Value.ownBlock])⟩)⟩, ⟨by first | exact Kd.R_nil _ _ _ _ _ | exact Kd.N_nil _ _ _ _ _ | exact Kd.V_nil _ _ _ _ _ | exact Kd.Q_nil _ _ _ _ _ | exact Kd.S_nil _ _ _ _ _⟩, ⟨by first | exact Kd.R_nil _ _ _ _ _ | exact Kd.N_nil _ _ _ _ _ | exact Kd.V_nil _ _ _ _ _ | exact Kd.Q_nil _ _ _ _ _ | exact Kd.S_nil _ _ _ _ _⟩, ⟨by repeat (first | (with_reducible first | exact HB.out | apply below_alloc | apply pw_below_drewN | apply below_drew1) | exact HB.out)⟩⟩
  case round =>
    clear H'
    try clear c1
    try clear p2
    try clear c3
    obtain ⟨x4_1, x5_1, x11_1, rfl, HA, HK1, HO_3, HO_4, HO_5, HB⟩ := hrel
    cases gk with
    | zero => exact absurd HA.out (by simp [spec_SortedPairs.l0])
    | succ k1 =>
      have H := HA.out
      clear HA
      simp only [spec_SortedPairs.l0] at H
      by_cases c5 : x11_1 < (t469.length : Int)
      · rw [if_pos c5] at H
        have c5b0 : decide (x11_1 < (t469.length : Int)) = true := decide_eq_true c5
        clear c5
        by_cases c6 : 0 ≤ x11_1
        · rw [if_pos c6] at H
          have c6b0 : decide (0 ≤ x11_1) = true := decide_eq_true c6
          clear c6
          by_cases c7 : x11_1 < (t469.length : Int)
          · rw [if_pos c7] at H
            have c7b0 : decide (x11_1 < (t469.length : Int)) = true := decide_eq_true c7
            clear c7
            by_cases c8 : ((rd_T59 t469 x11_1).f0).toList = ([97, 108, 101, 114, 116, 110, 97, 109, 101] : List UInt8)
            · rw [if_pos c8] at H
              have c8b0 : (((rd_T59 t469 x11_1).f0).toList == ([97, 108, 101, 114, 116, 110, 97, 109, 101] : List UInt8)) = true := beq_iff_eq.mpr c8
              have c8b1 : (((rd_T59 t469 x11_1).f0).toList != ([97, 108, 101, 114, 116, 110, 97, 109, 101] : List UInt8)) = false := bne_eq_false_iff_eq.mpr c8
              clear c8
              by_cases c9 : x4_1.length < 4398046511104
              · rw [if_pos c9] at H
                have LMc9 := Aside0.mk c9
                clear c9
                obtain ⟨y474, hy474⟩ : ∃ y_ : List (S59), y_ = (x4_1 ++ [(⟨(rd_T59 t469 x11_1).f0, (rd_T59 t469 x11_1).f1⟩ : S59)]) := ⟨_, rfl⟩
                replace H : (spec_SortedPairs.l0 k1 t469 y474 x5_1 (t469.length : Int) (wrap64 (x11_1 + 1))) = some r := by first | (rw [hy474]; with_reducible exact H) | (have H2_ := (Option.bind_some _ _).symm.trans H; rw [hy474]; with_reducible exact H2_) | (have H2_ := (Option.bind_some _ _).symm.trans H; with_reducible exact H2_) | with_reducible exact H | (rw [hy474]; exact H) | exact H
                have Ny474 := Aside0.mk hy474
                clear hy474
                have H' := Aside0.mk H
                clear H
                have p472 : 0 ≤ (x11_1 : Int) := of_decide_eq_true (by first | (with_reducible assumption) | assumption)
                have q472 : x11_1 < (t469.length : Int) := of_decide_eq_true (by first | (with_reducible assumption) | assumption)
                obtain ⟨ad472, e472, hx472_0, hx472_1⟩ := at_T59 (Kd.R_reads' HO_3.out).2.2 x11_1 p472 q472
                cases e472
                replace p472 := eq_true p472
                replace q472 := eq_true q472
                have p473 : 0 ≤ (x11_1 : Int) := of_decide_eq_true (by first | (with_reducible assumption) | assumption)
                have q473 : x11_1 < (t469.length : Int) := of_decide_eq_true (by first | (with_reducible assumption) | assumption)
                obtain ⟨ad473, e473, hx473_0, hx473_1⟩ := at_T59 (Kd.R_reads' HO_3.out).2.2 x11_1 p473 q473
                obtain rfl : ad472 = ad473 := (by injection e473)
                replace p473 := eq_true p473
                replace q473 := eq_true q473
                go_wp2_with (first | ((with_reducible refine gate_builtin (b := .append) (xs := #[.tmp 20, .tmp 25]) rfl ?_); at_builtin; refine Kd.R_append k59 (w0 := w) w.heap.size rfl (.tmp 20) (.tmp 25) 29 59 (.agg #[(.string ⟨#[]⟩), (.string ⟨#[]⟩)]) 32 rfl Try.underlying29 info59 rfl (by decide) (by omega) u4 x4_1 (⟨(rd_T59 t469 x11_1).f0, (rd_T59 t469 x11_1).f1⟩ : S59) [.string ((rd_T59 t469 x11_1).f0), .string ((rd_T59 t469 x11_1).f1)] (fun k_ => some k_ ≠ (.slice (some ad472) t469.length co4 : Value).ownBlock ∧ some k_ ≠ (u5 : Value).ownBlock) (fun _ => False) rfl rfl ?aP (fun _ hk => hk.elim) ?aF ?aO ?aB ?aS ?aL ?_; (case aP => exact k59_mkM _ _ _ (⟨(rd_T59 t469 x11_1).f0, (rd_T59 t469 x11_1).f1⟩ : S59)); (case aB => exact (by repeat (first | (with_reducible first | exact HB.out | apply below_alloc | apply pw_below_drewN | apply below_drew1) | exact HB.out))); (case aF => exact (fun k_ hk => ⟨Kd.fresh' (Kd.R_lt (by (with_reducible repeat (first | apply Kd.R_alloc | apply Kd.R_drewN | apply Kd.R_drew)); exact HO_3.out)) k_ hk, Kd.fresh' (Kd.R_lt (by (with_reducible repeat (first | apply Kd.R_alloc | apply Kd.R_drewN | apply Kd.R_drew)); exact HO_5.out)) k_ hk⟩)); (case aO => exact (by (with_reducible repeat (first | apply Kd.R_alloc | apply Kd.R_drewN | apply Kd.R_drew)); exact HO_4.out)); (case aS => exact (below_size (by repeat (first | (with_reducible first | exact HB.out | apply below_alloc | apply pw_below_drewN | apply below_drew1) | exact HB.out)))); (case aL => have := LMc9.out; omega); intro v475 w10 ho hb hg hat; rw [← Ny474.out] at ho; have n0_ := Aside0.mk (Kd.R_after (ok := (fun k_ => some k_ ≠ (u5 : Value).ownBlock)) (by (with_reducible repeat (first | apply Kd.R_alloc | apply Kd.R_drewN | apply Kd.R_drew)); exact Kd.R_mono HO_3.out (fun _ hk => ⟨hk.2, hk.1⟩)) hg hat); have n1_ := Aside0.mk (Kd.R_after (ok := (fun k_ => some k_ ≠ (.slice (some ad472) t469.length co4 : Value).ownBlock)) (by (with_reducible repeat (first | apply Kd.R_alloc | apply Kd.R_drewN | apply Kd.R_drew)); exact HO_5.out) hg hat); have n2_ := Aside0.mk (hb); have n3_ := Aside0.mk (ho); clear HO_3; clear HO_5; clear HB; clear HO_4; have HO_3 := n0_; have HO_5 := n1_; have HB := n2_; have HO476 := n3_; clear n0_ n1_ n2_ n3_; clear ho hb hg hat))
                go_roundg k1
                case measure => have := HK1.out; omega
                case rel => exact ⟨(y474), (x5_1), (wrap64 (x11_1 + 1)), (by first | rfl | (simp; done) | (simp [*]; done) | (simp [*, q_isEmpty]; done)), H', ⟨by have := HK1.out; omega⟩, ⟨by (with_reducible repeat (first | apply Kd.R_alloc | apply Kd.R_drewN | apply Kd.R_drew)); exact Kd.R_mono HO_3.out (fun _ hk => ⟨hk.2, hk.1⟩)⟩, ⟨by (with_reducible repeat (first | apply Kd.R_alloc | apply Kd.R_drewN | apply Kd.R_drew)); exact HO476.out⟩, ⟨by (with_reducible repeat (first | apply Kd.R_alloc | apply Kd.R_drewN | apply Kd.R_drew)); exact HO_5.out⟩, ⟨by repeat (first | (with_reducible first | exact HB.out | apply below_alloc | apply pw_below_drewN | apply below_drew1) | exact HB.out)⟩⟩
              · rw [if_neg c9] at H
                exact absurd H (by simp)
            · rw [if_neg c8] at H
              have c8b0 : (((rd_T59 t469 x11_1).f0).toList == ([97, 108, 101, 114, 116, 110, 97, 109, 101] : List UInt8)) = false := beq_eq_false_iff_ne.mpr c8
              have c8b1 : (((rd_T59 t469 x11_1).f0).toList != ([97, 108, 101, 114, 116, 110, 97, 109, 101] : List UInt8)) = true := bne_iff_ne.mpr c8
              by_cases c11 : x5_1.length < 4398046511104
              · rw [if_pos c11] at H
                have LMc11 := Aside0.mk c11
                clear c11
                obtain ⟨y478, hy478⟩ : ∃ y_ : List (S59), y_ = (x5_1 ++ [(⟨(rd_T59 t469 x11_1).f0, (rd_T59 t469 x11_1).f1⟩ : S59)]) := ⟨_, rfl⟩
                replace H : (spec_SortedPairs.l0 k1 t469 x4_1 y478 (t469.length : Int) (wrap64 (x11_1 + 1))) = some r := by first | (rw [hy478]; with_reducible exact H) | (have H2_ := (Option.bind_some _ _).symm.trans H; rw [hy478]; with_reducible exact H2_) | (have H2_ := (Option.bind_some _ _).symm.trans H; with_reducible exact H2_) | with_reducible exact H | (rw [hy478]; exact H) | exact H
                have Ny478 := Aside0.mk hy478
                clear hy478
                have H' := Aside0.mk H
                clear H
                have p472 : 0 ≤ (x11_1 : Int) := of_decide_eq_true (by first | (with_reducible assumption) | assumption)
                have q472 : x11_1 < (t469.length : Int) := of_decide_eq_true (by first | (with_reducible assumption) | assumption)
                obtain ⟨ad472, e472, hx472_0, hx472_1⟩ := at_T59 (Kd.R_reads' HO_3.out).2.2 x11_1 p472 q472
                cases e472
                replace p472 := eq_true p472
                replace q472 := eq_true q472
                have p477 : 0 ≤ (x11_1 : Int) := of_decide_eq_true (by first | (with_reducible assumption) | assumption)
                have q477 : x11_1 < (t469.length : Int) := of_decide_eq_true (by first | (with_reducible assumption) | assumption)
                obtain ⟨ad477, e477, hx477_0, hx477_1⟩ := at_T59 (Kd.R_reads' HO_3.out).2.2 x11_1 p477 q477
                obtain rfl : ad472 = ad477 := (by injection e477)
                replace p477 := eq_true p477
                replace q477 := eq_true q477
                go_wp2_with (first | ((with_reducible refine gate_builtin (b := .append) (xs := #[.tmp 27, .tmp 32]) rfl ?_); at_builtin; refine Kd.R_append k59 (w0 := w) w.heap.size rfl (.tmp 27) (.tmp 32) 29 59 (.agg #[(.string ⟨#[]⟩), (.string ⟨#[]⟩)]) 32 rfl Try.underlying29 info59 rfl (by decide) (by omega) u5 x5_1 (⟨(rd_T59 t469 x11_1).f0, (rd_T59 t469 x11_1).f1⟩ : S59) [.string ((rd_T59 t469 x11_1).f0), .string ((rd_T59 t469 x11_1).f1)] (fun k_ => some k_ ≠ (.slice (some ad472) t469.length co4 : Value).ownBlock ∧ some k_ ≠ (u4 : Value).ownBlock) (fun _ => False) rfl rfl ?aP (fun _ hk => hk.elim) ?aF ?aO ?aB ?aS ?aL ?_; (case aP => exact k59_mkM _ _ _ (⟨(rd_T59 t469 x11_1).f0, (rd_T59 t469 x11_1).f1⟩ : S59)); (case aB => exact (by repeat (first | (with_reducible first | exact HB.out | apply below_alloc | apply pw_below_drewN | apply below_drew1) | exact HB.out))); (case aF => exact (fun k_ hk => ⟨Kd.fresh' (Kd.R_lt (by (with_reducible repeat (first | apply Kd.R_alloc | apply Kd.R_drewN | apply Kd.R_drew)); exact HO_3.out)) k_ hk, Kd.fresh' (Kd.R_lt (by (with_reducible repeat (first | apply Kd.R_alloc | apply Kd.R_drewN | apply Kd.R_drew)); exact HO_4.out)) k_ hk⟩)); (case aO => exact (by (with_reducible repeat (first | apply Kd.R_alloc | apply Kd.R_drewN | apply Kd.R_drew)); exact HO_5.out)); (case aS => exact (below_size (by repeat (first | (with_reducible first | exact HB.out | apply below_alloc | apply pw_below_drewN | apply below_drew1) | exact HB.out)))); (case aL => have := LMc11.out; omega); intro v479 w12 ho hb hg hat; rw [← Ny478.out] at ho; have n0_ := Aside0.mk (Kd.R_after (ok := (fun k_ => some k_ ≠ (u4 : Value).ownBlock)) (by (with_reducible repeat (first | apply Kd.R_alloc | apply Kd.R_drewN | apply Kd.R_drew)); exact HO_3.out) hg hat); have n1_ := Aside0.mk (Kd.R_after (ok := (fun k_ => some k_ ≠ (.slice (some ad472) t469.length co4 : Value).ownBlock)) (by (with_reducible repeat (first | apply Kd.R_alloc | apply Kd.R_drewN | apply Kd.R_drew)); exact HO_4.out) hg hat); have n2_ := Aside0.mk (hb); have n3_ := Aside0.mk (ho); clear HO_3; clear HO_4; clear HB; clear HO_5; have HO_3 := n0_; have HO_4 := n1_; have HB := n2_; have HO480 := n3_; clear n0_ n1_ n2_ n3_; clear ho hb hg hat))
                go_roundg k1
                case measure => have := HK1.out; omega
                case rel => exact ⟨(x4_1), (y478), (wrap64 (x11_1 + 1)), (by first | rfl | (simp; done) | (simp [*]; done) | (simp [*, q_isEmpty]; done)), H', ⟨by have := HK1.out; omega⟩, ⟨by (with_reducible repeat (first | apply Kd.R_alloc | apply Kd.R_drewN | apply Kd.R_drew)); exact HO_3.out⟩, ⟨by (with_reducible repeat (first | apply Kd.R_alloc | apply Kd.R_drewN | apply Kd.R_drew)); exact HO_4.out⟩, ⟨by (with_reducible repeat (first | apply Kd.R_alloc | apply Kd.R_drewN | apply Kd.R_drew)); exact HO480.out⟩, ⟨by repeat (first | (with_reducible first | exact HB.out | apply below_alloc | apply pw_below_drewN | apply below_drew1) | exact HB.out)⟩⟩
              · rw [if_neg c11] at H
                exact absurd H (by simp)
          · rw [if_neg c7] at H
            exact absurd H (by simp)
        · rw [if_neg c6] at H
          exact absurd H (by simp)
      · rw [if_neg c5] at H
        have c5b0 : decide (x11_1 < (t469.length : Int)) = false := decide_eq_false c5
        clear c5
        by_cases c13 : x4_1.length + x5_1.length < 4398046511104
        · rw [if_pos c13] at H
          have LMc13 := Aside0.mk c13
          clear c13
          obtain ⟨y481, hy481⟩ : ∃ y_ : List (S59), y_ = (x4_1 ++ x5_1) := ⟨_, rfl⟩
          replace H : (some y481) = some r := by first | (rw [hy481]; with_reducible exact H) | (have H2_ := (Option.bind_some _ _).symm.trans H; rw [hy481]; with_reducible exact H2_) | (have H2_ := (Option.bind_some _ _).symm.trans H; with_reducible exact H2_) | with_reducible exact H | (rw [hy481]; exact H) | exact H
          have Ny481 := Aside0.mk hy481
          clear hy481
          obtain rfl := Option.some.inj H
          obtain ⟨Ao15, co15, eo15⟩ := Kd.R_slice HO_5.out
          subst eo15
          go_wp2_with (first | ((with_reducible refine gate_builtin (b := .append) (xs := #[.tmp 35, .tmp 36]) rfl ?_); at_builtin; refine Kd.R_append_rows k59 (w0 := w) w.heap.size rfl (.tmp 35) (.tmp 36) 29 59 (.agg #[(.string ⟨#[]⟩), (.string ⟨#[]⟩)]) 32 rfl Try.underlying29 info59 rfl (by decide) (by omega) u4 x4_1 x5_1 _ _ _ (fun k_ => some k_ ≠ (.slice Ao4 t469.length co4 : Value).ownBlock ∧ some k_ ≠ (.slice Ao15 x5_1.length co15 : Value).ownBlock) (fun _ => False) rfl rfl ?aO ?aR (fun _ _ h => h) (fun _ h => h.elim) ?aF ?aB ?aS ?aL ?_; (case aR => repeat (first | exact (Kd.R_reads' HO_5.out).2.2 | (with_reducible refine Kd.C_alloc ?_ _) | (with_reducible refine Kd.C_drewN ?_ _) | (with_reducible refine Kd.C_drew ?_))); (case aB => exact (by repeat (first | (with_reducible first | exact HB.out | apply below_alloc | apply pw_below_drewN | apply below_drew1) | exact HB.out))); (case aF => exact (fun k_ hk => ⟨Kd.fresh' (Kd.R_lt (by (with_reducible repeat (first | apply Kd.R_alloc | apply Kd.R_drewN | apply Kd.R_drew)); exact HO_3.out)) k_ hk, Kd.fresh' (Kd.R_lt (by (with_reducible repeat (first | apply Kd.R_alloc | apply Kd.R_drewN | apply Kd.R_drew)); exact HO_5.out)) k_ hk⟩)); (case aO => exact (by (with_reducible repeat (first | apply Kd.R_alloc | apply Kd.R_drewN | apply Kd.R_drew)); exact HO_4.out)); (case aS => exact (below_size (by repeat (first | (with_reducible first | exact HB.out | apply below_alloc | apply pw_below_drewN | apply below_drew1) | exact HB.out)))); (case aL => have := LMc13.out; omega); intro v482 w14 ho hb hg hat; rw [← Ny481.out] at ho; have n0_ := Aside0.mk (Kd.R_after (ok := (fun k_ => some k_ ≠ (.slice Ao15 x5_1.length co15 : Value).ownBlock)) (by (with_reducible repeat (first | apply Kd.R_alloc | apply Kd.R_drewN | apply Kd.R_drew)); exact Kd.R_mono HO_3.out (fun _ hk => ⟨hk.2, hk.1⟩)) hg hat); have n1_ := Aside0.mk (Kd.R_after (ok := (fun k_ => some k_ ≠ (.slice Ao4 t469.length co4 : Value).ownBlock)) (by (with_reducible repeat (first | apply Kd.R_alloc | apply Kd.R_drewN | apply Kd.R_drew)); exact HO_5.out) hg hat); have n2_ := Aside0.mk (hb); have n3_ := Aside0.mk (ho); clear HO_3; clear HO_5; clear HB; clear HO_4; have HO_3 := n0_; have HO_5 := n1_; have HB := n2_; have HO483 := n3_; clear n0_ n1_ n2_ n3_; clear ho hb hg hat))
          go_ret
          exact ⟨_, by first | rfl | (simp [errW_none, errW_some] <;> rfl) | (simp [*, errW_none, errW_some] <;> rfl) | (simp [*, q_isEmpty]; done), by (with_reducible repeat (first | apply Kd.R_alloc | apply Kd.R_drewN | apply Kd.R_drew)); exact Kd.R_mono HO483.out (fun _ hk => trivial), by repeat (first | (with_reducible first | exact HB.out | apply below_alloc | apply pw_below_drewN | apply below_drew1) | exact HB.out)⟩
        · rw [if_neg c13] at H
          exact absurd H (by simp)

end Go.Proofs.Ytikhlolhodgegaa.Q
