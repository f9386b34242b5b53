-- Printed for this seat by wip/pp.py of this repo; nothing here is trusted: Lean checks it.
import Derived.Test.YtikhlolhodgegaaQ0
import Derived.Test.YtikhlolhodgegaaQspecSortedPairs
namespace Go.Proofs.Ytikhlolhodgegaa.Q
open Go.RowKit Go.Proofs.YtikhlolhodgegaaW.PrintWords Go.Proofs.YtikhlolhodgegaaW.PrintLast Go.Proofs.YtikhlolhodgegaaW.PrintMore
attribute [local go_sem] max2_int min2_int max_two min_two max_three min_three max_four min_four   -- for this text's walks alone
set_option linter.unusedVariables false
set_option linter.unusedSimpArgs false

/-! ### spec_Without: function 33 -/
mutual
def spec_Without.l0 : Nat → List ByteArray → List (S59) → List (S59) → Int → Int → Option ((List (S59)))
  | 0, _, _, _, _, _ => none
  | k + 1, x1, x5, x6, x13, x14 => if x14 < x13 then (spec_Without.l1 k x1 x5 x6 x14 false x13 x14 (x1.length : Int) 0) else (some x6)
def spec_Without.l1 : Nat → List ByteArray → List (S59) → List (S59) → Int → Bool → Int → Int → Int → Int → Option ((List (S59)))
  | 0, _, _, _, _, _, _, _, _, _ => none
  | k + 1, x1, x5, x6, x7, x8, x13, x14, x18, x19 => if x19 < x18 then (if x8 = true then (spec_Without.l1 k x1 x5 x6 x7 true x13 x14 x18 (wrap64 (x19 + 1))) else (if 0 ≤ x19 then (if x19 < (x1.length : Int) then (if 0 ≤ x7 then (if x7 < (x5.length : Int) then (spec_Without.l1 k x1 x5 x6 x7 ((rdOf ByteArray.empty x1 x19).toList == ((rd_T59 x5 x7).f0).toList) x13 x14 x18 (wrap64 (x19 + 1))) else (none)) else (none)) else (none)) else (none))) else (if x8 = true then (spec_Without.l0 k x1 x5 x6 x13 (wrap64 (x14 + 1))) else (if 0 ≤ x7 then (if x7 < (x5.length : Int) then (if x6.length < 4398046511104 then (spec_Without.l0 k x1 x5 (x6 ++ [(⟨(rd_T59 x5 x7).f0, (rd_T59 x5 x7).f1⟩ : S59)]) x13 (wrap64 (x14 + 1))) else (none)) else (none)) else (none)))
end
def spec_Without.f (k : Nat) (l0 : List (S59)) (l1 : List ByteArray) : Option ((List (S59))) := (spec_SortedPairs.f k l0).bind fun t484 => (spec_Without.l0 k l1 t484 ([] : List (S59)) (t484.length : Int) 0)
theorem spec_Without.mono_l : ∀ k, (∀ y0 y1 y2 y3 y4, LeO (spec_Without.l0 k y0 y1 y2 y3 y4) (spec_Without.l0 (k + 1) y0 y1 y2 y3 y4)) ∧ (∀ y0 y1 y2 y3 y4 y5 y6 y7 y8, LeO (spec_Without.l1 k y0 y1 y2 y3 y4 y5 y6 y7 y8) (spec_Without.l1 (k + 1) y0 y1 y2 y3 y4 y5 y6 y7 y8))
  | 0 => ⟨fun _ _ _ _ _ r h => by simp [spec_Without.l0] at h, fun _ _ _ _ _ _ _ _ _ r h => by simp [spec_Without.l1] at h⟩
  | k + 1 => by
    obtain ⟨ih0, ih1⟩ := spec_Without.mono_l k
    refine ⟨?_, ?_⟩
    · intro y0 y1 y2 y3 y4
      unfold spec_Without.l0
      repeat' first
      | (with_reducible exact ih0 _ _ _ _ _)
      | (with_reducible exact ih1 _ _ _ _ _ _ _ _ _)
      | (with_reducible exact spec_SortedPairs.mono _ _)
      | (with_reducible exact LeO.refl _)
      | (with_reducible exact LeO.none _)
      | (with_reducible refine LeO.ite ?_ ?_)
      | (with_reducible refine LeO.bind ?_ (fun _ => ?_))
      | exact ih0 _ _ _ _ _
      | exact ih1 _ _ _ _ _ _ _ _ _
      | exact spec_SortedPairs.mono _ _
      | exact LeO.none _
      | refine LeO.ite ?_ ?_
      | refine LeO.bind ?_ (fun _ => ?_)
    · intro y0 y1 y2 y3 y4 y5 y6 y7 y8
      unfold spec_Without.l1
      repeat' first
      | (with_reducible exact ih0 _ _ _ _ _)
      | (with_reducible exact ih1 _ _ _ _ _ _ _ _ _)
      | (with_reducible exact spec_SortedPairs.mono _ _)
      | (with_reducible exact LeO.refl _)
      | (with_reducible exact LeO.none _)
      | (with_reducible refine LeO.ite ?_ ?_)
      | (with_reducible refine LeO.bind ?_ (fun _ => ?_))
      | exact ih0 _ _ _ _ _
      | exact ih1 _ _ _ _ _ _ _ _ _
      | exact spec_SortedPairs.mono _ _
      | exact LeO.none _
      | refine LeO.ite ?_ ?_
      | refine LeO.bind ?_ (fun _ => ?_)
theorem spec_Without.mono : ∀ a0 a1 k, LeO (spec_Without.f k a0 a1) (spec_Without.f (k + 1) a0 a1) := by
  intro a0 a1 k
  obtain ⟨ih0, ih1⟩ := spec_Without.mono_l k
  unfold spec_Without.f
  repeat' first
      | (with_reducible exact ih0 _ _ _ _ _)
      | (with_reducible exact ih1 _ _ _ _ _ _ _ _ _)
      | (with_reducible exact spec_SortedPairs.mono _ _)
      | (with_reducible exact LeO.refl _)
      | (with_reducible exact LeO.none _)
      | (with_reducible refine LeO.ite ?_ ?_)
      | (with_reducible refine LeO.bind ?_ (fun _ => ?_))
      | exact ih0 _ _ _ _ _
      | exact ih1 _ _ _ _ _ _ _ _ _
      | exact spec_SortedPairs.mono _ _
      | exact LeO.none _
      | refine LeO.ite ?_ ?_
      | refine LeO.bind ?_ (fun _ => ?_)
set_option maxHeartbeats 8000000 in
set_option maxRecDepth 100000 in
theorem spec_Without.calls (k : Nat) (A0 : Option Addr) (c0 : Nat) (l0 : List (S59)) (A1 : Option Addr) (c1 : Nat) (l1 : List ByteArray) (r : List (S59)) (w : World) (hr0 : Kd.C k59 w A0 l0.length l0) (hc0 : l0.length ≤ c0) (hr1 : Kd.C Kd.string w A1 l1.length l1) (hc1 : l1.length ≤ c1) (h : spec_Without.f k l0 l1 = some r) :
    Calls Try.prog 33 #[.slice A0 l0.length c0, .slice A1 l1.length c1] w fun e w' => ∃ v0_ : Value, e = .returned (v0_) ∧ Kd.R k59 59 w' w.heap.size (fun _ => True) v0_ r ∧ Below w.heap.size w w' := by
  have hu59 := Try.underlying59
  have HR0 := Aside0.mk hr0
  have HC0 := Aside0.mk hc0
  clear hr0 hc0
  have HR1 := Aside0.mk hr1
  have HC1 := Aside0.mk hc1
  clear hr1 hc1
  have HB := Aside0.mk (Below.refl w.heap.size w)
  have H : ((spec_SortedPairs.f k l0).bind fun t484 => (spec_Without.l0 k l1 t484 ([] : List (S59)) (t484.length : Int) 0)) = some r := h
  clear h
  replace H := Option.bind_eq_some_iff.mp H
  obtain ⟨t484, A30, H⟩ := H
  replace H : (spec_Without.l0 k l1 t484 ([] : List (S59)) (t484.length : Int) 0) = some r := H
  have A3 := Aside0.mk A30
  clear A30
  have H' := Aside0.mk H
  clear H
  go_enter Try.func33, Try.ntmps33
  go_wp2_with (first | (go_at_call 32; (with_reducible refine (spec_SortedPairs.calls k _ _ l0 t484 _ ?side1 ?side2 A3.out).mono ?_); (case side1 => repeat (first | exact HR0.out | (with_reducible refine Kd.C_alloc ?_ _) | (with_reducible refine Kd.C_drewN ?_ _) | (with_reducible refine Kd.C_drew ?_))); (case side2 => exact HC0.out); rintro e w4 ⟨v485, rfl, ho0, hb⟩; have n0_ := Aside0.mk (Kd.R_lower ho0 (below_size (by repeat (first | (with_reducible first | exact HB.out | apply below_alloc | apply pw_below_drewN | apply below_drew1) | exact HB.out)))); have n1_ := Aside0.mk (below_step (by repeat (first | (with_reducible first | exact HB.out | apply below_alloc | apply pw_below_drewN | apply below_drew1) | exact HB.out)) hb); clear HB; have HO486 := n0_; have HB := n1_; clear n0_ n1_; (try clear hb); (try clear hb2); (try clear hk); (try clear hi); (try clear ho0); obtain ⟨Ao5, co5, eo5⟩ := Kd.R_slice HO486.out; subst eo5))
  repeat (go_quiet (first | (go_at_call 32; (with_reducible refine (spec_SortedPairs.calls k _ _ l0 t484 _ ?side1 ?side2 A3.out).mono ?_); (case side1 => repeat (first | exact HR0.out | (with_reducible refine Kd.C_alloc ?_ _) | (with_reducible refine Kd.C_drewN ?_ _) | (with_reducible refine Kd.C_drew ?_))); (case side2 => exact HC0.out); rintro e w4 ⟨v485, rfl, ho0, hb⟩; have n0_ := Aside0.mk (Kd.R_lower ho0 (below_size (by repeat (first | (with_reducible first | exact HB.out | apply below_alloc | apply pw_below_drewN | apply below_drew1) | exact HB.out)))); have n1_ := Aside0.mk (below_step (by repeat (first | (with_reducible first | exact HB.out | apply below_alloc | apply pw_below_drewN | apply below_drew1) | exact HB.out)) hb); clear HB; have HO486 := n0_; have HB := n1_; clear n0_ n1_; (try clear hb); (try clear hb2); (try clear hk); (try clear hi); (try clear ho0); obtain ⟨Ao5, co5, eo5⟩ := Kd.R_slice HO486.out; subst eo5)); try go_wp2_with (first | (go_at_call 32; (with_reducible refine (spec_SortedPairs.calls k _ _ l0 t484 _ ?side1 ?side2 A3.out).mono ?_); (case side1 => repeat (first | exact HR0.out | (with_reducible refine Kd.C_alloc ?_ _) | (with_reducible refine Kd.C_drewN ?_ _) | (with_reducible refine Kd.C_drew ?_))); (case side2 => exact HC0.out); rintro e w4 ⟨v485, rfl, ho0, hb⟩; have n0_ := Aside0.mk (Kd.R_lower ho0 (below_size (by repeat (first | (with_reducible first | exact HB.out | apply below_alloc | apply pw_below_drewN | apply below_drew1) | exact HB.out)))); have n1_ := Aside0.mk (below_step (by repeat (first | (with_reducible first | exact HB.out | apply below_alloc | apply pw_below_drewN | apply below_drew1) | exact HB.out)) hb); clear HB; have HO486 := n0_; have HB := n1_; clear n0_ n1_; (try clear hb); (try clear hb2); (try clear hk); (try clear hi); (try clear ho0); obtain ⟨Ao5, co5, eo5⟩ := Kd.R_slice HO486.out; subst eo5)))
  go_loopg [6, 14] k (fun kq v6 v14 w' => ∃ (x6_1 : List (S59)) (x14_1 : Int), v14 = .int .i64 x14_1 ∧ Aside0 (spec_Without.l0 kq l1 t484 x6_1 (t484.length : Int) x14_1 = some r) ∧ Aside0 (kq ≤ k) ∧ Aside0 (Kd.R k59 59 w' w.heap.size (fun k_ => some k_ ≠ (v6 : Value).ownBlock) (.slice Ao5 t484.length co5) t484) ∧ Aside0 (Kd.R k59 59 w' w.heap.size (fun k_ => some k_ ≠ ((.slice Ao5 t484.length co5) : Value).ownBlock) v6 x6_1) ∧ Aside0 (Below w.heap.size w w'))
  case atStart => exact ⟨(([] : List (S59))), (0), (by first | rfl | (simp; done) | (simp [*]; done) | (simp [*, q_isEmpty]; done)), H', ⟨Nat.le_refl _⟩, ⟨by (with_reducible repeat (first | apply Kd.R_alloc | apply Kd.R_drewN | apply Kd.R_drew)); exact Kd.R_mono HO486.out (fun _ hk => (by simp [Value.ownBlock]))⟩, ⟨by first | exact Kd.R_nil _ _ _ _ _ | exact Kd.N_nil _ _ _ _ _ | exact Kd.V_nil _ _ _ _ _ | exact Kd.Q_nil _ _ _ _ _ | exact Kd.S_nil _ _ _ _ _⟩, ⟨by repeat (first | (with_reducible first | exact HB.out | apply below_alloc | apply pw_below_drewN | apply below_drew1) | exact HB.out)⟩⟩
  case round =>
    clear H'
    try clear c1
    try clear p2
    try clear c3
    obtain ⟨x6_1, x14_1, rfl, HA, HK1, HO_5, HO_6, HB⟩ := hrel
    cases gk with
    | zero => exact absurd HA.out (by simp [spec_Without.l0])
    | succ k1 =>
      have H := HA.out
      clear HA
      simp only [spec_Without.l0] at H
      by_cases c6 : x14_1 < (t484.length : Int)
      · rw [if_pos c6] at H
        have c6b0 : decide (x14_1 < (t484.length : Int)) = true := decide_eq_true c6
        clear c6
        have H' := Aside0.mk H
        clear H
        go_wp2
        repeat (go_quiet (fail); try go_wp2)
        go_loopg [8, 19] k1 (fun kq v8 v19 w' => ∃ (x8_2 : Bool) (x19_2 : Int), v8 = .bool x8_2 ∧ v19 = .int .i64 x19_2 ∧ Aside0 (spec_Without.l1 kq l1 t484 x6_1 x14_1 x8_2 (t484.length : Int) x14_1 (l1.length : Int) x19_2 = some r) ∧ Aside0 (kq ≤ k1) ∧ Aside0 (Kd.R k59 59 w' w.heap.size (fun k_ => some k_ ≠ (u6 : Value).ownBlock) (.slice Ao5 t484.length co5) t484) ∧ Aside0 (Kd.R k59 59 w' w.heap.size (fun k_ => some k_ ≠ ((.slice Ao5 t484.length co5) : Value).ownBlock) u6 x6_1) ∧ Aside0 (Below w.heap.size w w'))
        case atStart => exact ⟨(false), (0), (by first | rfl | (simp; done) | (simp [*]; done) | (simp [*, q_isEmpty]; done)), (by first | rfl | (simp; done) | (simp [*]; done) | (simp [*, q_isEmpty]; done)), H', ⟨Nat.le_refl _⟩, ⟨by (with_reducible repeat (first | apply Kd.R_alloc | apply Kd.R_drewN | apply Kd.R_drew)); exact HO_5.out⟩, ⟨by (with_reducible repeat (first | apply Kd.R_alloc | apply Kd.R_drewN | apply Kd.R_drew)); exact HO_6.out⟩, ⟨by repeat (first | (with_reducible first | exact HB.out | apply below_alloc | apply pw_below_drewN | apply below_drew1) | exact HB.out)⟩⟩
        case round =>
          clear H'
          try clear c1
          try clear p2
          try clear c3
          try clear c6
          try clear c6b0
          try clear p2
          obtain ⟨x8_2, x19_2, rfl, rfl, HA, HK2, HO_5, HO_6, HB⟩ := hrel
          cases gk with
          | zero => exact absurd HA.out (by simp [spec_Without.l1])
          | succ k2 =>
            have H := HA.out
            clear HA
            simp only [spec_Without.l1] at H
            by_cases c7 : x19_2 < (l1.length : Int)
            · rw [if_pos c7] at H
              have c7b0 : decide (x19_2 < (l1.length : Int)) = true := decide_eq_true c7
              clear c7
              by_cases c8 : x8_2 = true
              · subst c8
                have H1 : (spec_Without.l1 k2 l1 t484 x6_1 x14_1 true (t484.length : Int) x14_1 (l1.length : Int) (wrap64 (x19_2 + 1))) = some r := by rw [if_pos rfl] at H; exact H
                clear H
                have H := H1
                clear H1
                have H' := Aside0.mk H
                clear H
                go_wp2
                repeat (go_quiet (fail); try go_wp2)
                go_roundg k2
                case measure => have := HK1.out; have := HK2.out; omega
                case rel => exact ⟨(true), (wrap64 (x19_2 + 1)), (by first | rfl | (simp; done) | (simp [*]; done) | (simp [*, q_isEmpty]; done)), (by first | rfl | (simp; done) | (simp [*]; done) | (simp [*, q_isEmpty]; done)), H', ⟨by have := HK1.out; have := HK2.out; omega⟩, ⟨by (with_reducible repeat (first | apply Kd.R_alloc | apply Kd.R_drewN | apply Kd.R_drew)); exact HO_5.out⟩, ⟨by (with_reducible repeat (first | apply Kd.R_alloc | apply Kd.R_drewN | apply Kd.R_drew)); exact HO_6.out⟩, ⟨by repeat (first | (with_reducible first | exact HB.out | apply below_alloc | apply pw_below_drewN | apply below_drew1) | exact HB.out)⟩⟩
              · replace c8 := Bool.eq_false_iff.mpr c8
                subst c8
                have H1 : (if 0 ≤ x19_2 then (if x19_2 < (l1.length : Int) then (if 0 ≤ x14_1 then (if x14_1 < (t484.length : Int) then (spec_Without.l1 k2 l1 t484 x6_1 x14_1 ((rdOf ByteArray.empty l1 x19_2).toList == ((rd_T59 t484 x14_1).f0).toList) (t484.length : Int) x14_1 (l1.length : Int) (wrap64 (x19_2 + 1))) else (none)) else (none)) else (none)) else (none)) = some r := by rw [if_neg (show ¬ (false = true) by decide)] at H; exact H
                clear H
                have H := H1
                clear H1
                by_cases c9 : 0 ≤ x19_2
                · rw [if_pos c9] at H
                  have c9b0 : decide (0 ≤ x19_2) = true := decide_eq_true c9
                  clear c9
                  by_cases c10 : x19_2 < (l1.length : Int)
                  · rw [if_pos c10] at H
                    have c10b0 : decide (x19_2 < (l1.length : Int)) = true := decide_eq_true c10
                    clear c10
                    by_cases c11 : 0 ≤ x14_1
                    · rw [if_pos c11] at H
                      have c11b0 : decide (0 ≤ x14_1) = true := decide_eq_true c11
                      clear c11
                      by_cases c12 : x14_1 < (t484.length : Int)
                      · rw [if_pos c12] at H
                        have c12b0 : decide (x14_1 < (t484.length : Int)) = true := decide_eq_true c12
                        clear c12
                        have H' := Aside0.mk H
                        clear H
                        have p487 : 0 ≤ (x19_2 : Int) := of_decide_eq_true (by first | (with_reducible assumption) | assumption)
                        have q487 : x19_2 < (l1.length : Int) := of_decide_eq_true (by first | (with_reducible assumption) | assumption)
                        obtain ⟨ad487, e487, hx487_0⟩ := Kd.at_string HR1.out x19_2 p487 q487
                        cases e487
                        replace hx487_0 := (HB.out.cell (World.block_lt_of_cell? w _ hx487_0)).trans hx487_0
                        replace p487 := eq_true p487
                        replace q487 := eq_true q487
                        have p488 : 0 ≤ (x14_1 : Int) := of_decide_eq_true (by first | (with_reducible assumption) | assumption)
                        have q488 : x14_1 < (t484.length : Int) := of_decide_eq_true (by first | (with_reducible assumption) | assumption)
                        obtain ⟨ad488, e488, hx488_0, hx488_1⟩ := at_T59 (Kd.R_reads' HO_5.out).2.2 x14_1 p488 q488
                        cases e488
                        replace p488 := eq_true p488
                        replace q488 := eq_true q488
                        go_wp2
                        repeat (go_quiet (fail); try go_wp2)
                        go_roundg k2
                        case measure => have := HK1.out; have := HK2.out; omega
                        case rel => exact ⟨(((rdOf ByteArray.empty l1 x19_2).toList == ((rd_T59 t484 x14_1).f0).toList)), (wrap64 (x19_2 + 1)), (by first | rfl | (simp; done) | (simp [*]; done) | (simp [*, q_isEmpty]; done)), (by first | rfl | (simp; done) | (simp [*]; done) | (simp [*, q_isEmpty]; done)), H', ⟨by have := HK1.out; have := HK2.out; omega⟩, ⟨by (with_reducible repeat (first | apply Kd.R_alloc | apply Kd.R_drewN | apply Kd.R_drew)); exact HO_5.out⟩, ⟨by (with_reducible repeat (first | apply Kd.R_alloc | apply Kd.R_drewN | apply Kd.R_drew)); exact HO_6.out⟩, ⟨by repeat (first | (with_reducible first | exact HB.out | apply below_alloc | apply pw_below_drewN | apply below_drew1) | exact HB.out)⟩⟩
                      · rw [if_neg c12] at H
                        exact absurd H (by simp)
                    · rw [if_neg c11] at H
                      exact absurd H (by simp)
                  · rw [if_neg c10] at H
                    exact absurd H (by simp)
                · rw [if_neg c9] at H
                  exact absurd H (by simp)
            · rw [if_neg c7] at H
              have c7b0 : decide (x19_2 < (l1.length : Int)) = false := decide_eq_false c7
              clear c7
              by_cases c13 : x8_2 = true
              · subst c13
                have H1 : (spec_Without.l0 k2 l1 t484 x6_1 (t484.length : Int) (wrap64 (x14_1 + 1))) = some r := by rw [if_pos rfl] at H; exact H
                clear H
                have H := H1
                clear H1
                have H' := Aside0.mk H
                clear H
                go_wp2
                repeat (go_quiet (fail); try go_wp2)
                go_roundg k2
                case measure => have := HK1.out; have := HK2.out; omega
                case rel => exact ⟨(x6_1), (wrap64 (x14_1 + 1)), (by first | rfl | (simp; done) | (simp [*]; done) | (simp [*, q_isEmpty]; done)), H', ⟨by have := HK1.out; have := HK2.out; omega⟩, ⟨by (with_reducible repeat (first | apply Kd.R_alloc | apply Kd.R_drewN | apply Kd.R_drew)); exact HO_5.out⟩, ⟨by (with_reducible repeat (first | apply Kd.R_alloc | apply Kd.R_drewN | apply Kd.R_drew)); exact HO_6.out⟩, ⟨by repeat (first | (with_reducible first | exact HB.out | apply below_alloc | apply pw_below_drewN | apply below_drew1) | exact HB.out)⟩⟩
              · replace c13 := Bool.eq_false_iff.mpr c13
                subst c13
                have H1 : (if 0 ≤ x14_1 then (if x14_1 < (t484.length : Int) then (if x6_1.length < 4398046511104 then (spec_Without.l0 k2 l1 t484 (x6_1 ++ [(⟨(rd_T59 t484 x14_1).f0, (rd_T59 t484 x14_1).f1⟩ : S59)]) (t484.length : Int) (wrap64 (x14_1 + 1))) else (none)) else (none)) else (none)) = some r := by rw [if_neg (show ¬ (false = true) by decide)] at H; exact H
                clear H
                have H := H1
                clear H1
                by_cases c14 : 0 ≤ x14_1
                · rw [if_pos c14] at H
                  have c14b0 : decide (0 ≤ x14_1) = true := decide_eq_true c14
                  clear c14
                  by_cases c15 : x14_1 < (t484.length : Int)
                  · rw [if_pos c15] at H
                    have c15b0 : decide (x14_1 < (t484.length : Int)) = true := decide_eq_true c15
                    clear c15
                    by_cases c16 : x6_1.length < 4398046511104
                    · rw [if_pos c16] at H
                      have LMc16 := Aside0.mk c16
                      clear c16
                      obtain ⟨y490, hy490⟩ : ∃ y_ : List (S59), y_ = (x6_1 ++ [(⟨(rd_T59 t484 x14_1).f0, (rd_T59 t484 x14_1).f1⟩ : S59)]) := ⟨_, rfl⟩
                      replace H : (spec_Without.l0 k2 l1 t484 y490 (t484.length : Int) (wrap64 (x14_1 + 1))) = some r := by first | (rw [hy490]; with_reducible exact H) | (have H2_ := (Option.bind_some _ _).symm.trans H; rw [hy490]; with_reducible exact H2_) | (have H2_ := (Option.bind_some _ _).symm.trans H; with_reducible exact H2_) | with_reducible exact H | (rw [hy490]; exact H) | exact H
                      have Ny490 := Aside0.mk hy490
                      clear hy490
                      have H' := Aside0.mk H
                      clear H
                      have p489 : 0 ≤ (x14_1 : Int) := of_decide_eq_true (by first | (with_reducible assumption) | assumption)
                      have q489 : x14_1 < (t484.length : Int) := of_decide_eq_true (by first | (with_reducible assumption) | assumption)
                      obtain ⟨ad489, e489, hx489_0, hx489_1⟩ := at_T59 (Kd.R_reads' HO_5.out).2.2 x14_1 p489 q489
                      cases e489
                      replace p489 := eq_true p489
                      replace q489 := eq_true q489
                      go_wp2_with (first | ((with_reducible refine gate_builtin (b := .append) (xs := #[.tmp 38, .tmp 43]) rfl ?_); at_builtin; refine Kd.R_append k59 (w0 := w) w.heap.size rfl (.tmp 38) (.tmp 43) 29 59 (.agg #[(.string ⟨#[]⟩), (.string ⟨#[]⟩)]) 32 rfl Try.underlying29 info59 rfl (by decide) (by omega) u6 x6_1 (⟨(rd_T59 t484 x14_1).f0, (rd_T59 t484 x14_1).f1⟩ : S59) [.string ((rd_T59 t484 x14_1).f0), .string ((rd_T59 t484 x14_1).f1)] (fun k_ => some k_ ≠ (.slice (some ad489) t484.length co5 : Value).ownBlock) (fun _ => False) rfl rfl ?aP (fun _ hk => hk.elim) ?aF ?aO ?aB ?aS ?aL ?_; (case aP => exact k59_mkM _ _ _ (⟨(rd_T59 t484 x14_1).f0, (rd_T59 t484 x14_1).f1⟩ : S59)); (case aB => exact (by repeat (first | (with_reducible first | exact HB.out | apply below_alloc | apply pw_below_drewN | apply below_drew1) | exact HB.out))); (case aF => exact (fun k_ hk => Kd.fresh' (Kd.R_lt (by (with_reducible repeat (first | apply Kd.R_alloc | apply Kd.R_drewN | apply Kd.R_drew)); exact HO_5.out)) k_ hk)); (case aO => exact (by (with_reducible repeat (first | apply Kd.R_alloc | apply Kd.R_drewN | apply Kd.R_drew)); exact HO_6.out)); (case aS => exact (below_size (by repeat (first | (with_reducible first | exact HB.out | apply below_alloc | apply pw_below_drewN | apply below_drew1) | exact HB.out)))); (case aL => have := LMc16.out; omega); intro v491 w17 ho hb hg hat; rw [← Ny490.out] at ho; have n0_ := Aside0.mk (Kd.R_after (ok := (fun _ => True)) (by (with_reducible repeat (first | apply Kd.R_alloc | apply Kd.R_drewN | apply Kd.R_drew)); exact Kd.R_mono HO_5.out (fun _ hk => ⟨trivial, hk⟩)) hg hat); have n1_ := Aside0.mk (hb); have n2_ := Aside0.mk (ho); clear HO_5; clear HB; clear HO_6; have HO_5 := n0_; have HB := n1_; have HO492 := n2_; clear n0_ n1_ n2_; clear ho hb hg hat))
                      repeat (go_quiet (first | ((with_reducible refine gate_builtin (b := .append) (xs := #[.tmp 38, .tmp 43]) rfl ?_); at_builtin; refine Kd.R_append k59 (w0 := w) w.heap.size rfl (.tmp 38) (.tmp 43) 29 59 (.agg #[(.string ⟨#[]⟩), (.string ⟨#[]⟩)]) 32 rfl Try.underlying29 info59 rfl (by decide) (by omega) u6 x6_1 (⟨(rd_T59 t484 x14_1).f0, (rd_T59 t484 x14_1).f1⟩ : S59) [.string ((rd_T59 t484 x14_1).f0), .string ((rd_T59 t484 x14_1).f1)] (fun k_ => some k_ ≠ (.slice (some ad489) t484.length co5 : Value).ownBlock) (fun _ => False) rfl rfl ?aP (fun _ hk => hk.elim) ?aF ?aO ?aB ?aS ?aL ?_; (case aP => exact k59_mkM _ _ _ (⟨(rd_T59 t484 x14_1).f0, (rd_T59 t484 x14_1).f1⟩ : S59)); (case aB => exact (by repeat (first | (with_reducible first | exact HB.out | apply below_alloc | apply pw_below_drewN | apply below_drew1) | exact HB.out))); (case aF => exact (fun k_ hk => Kd.fresh' (Kd.R_lt (by (with_reducible repeat (first | apply Kd.R_alloc | apply Kd.R_drewN | apply Kd.R_drew)); exact HO_5.out)) k_ hk)); (case aO => exact (by (with_reducible repeat (first | apply Kd.R_alloc | apply Kd.R_drewN | apply Kd.R_drew)); exact HO_6.out)); (case aS => exact (below_size (by repeat (first | (with_reducible first | exact HB.out | apply below_alloc | apply pw_below_drewN | apply below_drew1) | exact HB.out)))); (case aL => have := LMc16.out; omega); intro v491 w17 ho hb hg hat; rw [← Ny490.out] at ho; have n0_ := Aside0.mk (Kd.R_after (ok := (fun _ => True)) (by (with_reducible repeat (first | apply Kd.R_alloc | apply Kd.R_drewN | apply Kd.R_drew)); exact Kd.R_mono HO_5.out (fun _ hk => ⟨trivial, hk⟩)) hg hat); have n1_ := Aside0.mk (hb); have n2_ := Aside0.mk (ho); clear HO_5; clear HB; clear HO_6; have HO_5 := n0_; have HB := n1_; have HO492 := n2_; clear n0_ n1_ n2_; clear ho hb hg hat)); try go_wp2_with (first | ((with_reducible refine gate_builtin (b := .append) (xs := #[.tmp 38, .tmp 43]) rfl ?_); at_builtin; refine Kd.R_append k59 (w0 := w) w.heap.size rfl (.tmp 38) (.tmp 43) 29 59 (.agg #[(.string ⟨#[]⟩), (.string ⟨#[]⟩)]) 32 rfl Try.underlying29 info59 rfl (by decide) (by omega) u6 x6_1 (⟨(rd_T59 t484 x14_1).f0, (rd_T59 t484 x14_1).f1⟩ : S59) [.string ((rd_T59 t484 x14_1).f0), .string ((rd_T59 t484 x14_1).f1)] (fun k_ => some k_ ≠ (.slice (some ad489) t484.length co5 : Value).ownBlock) (fun _ => False) rfl rfl ?aP (fun _ hk => hk.elim) ?aF ?aO ?aB ?aS ?aL ?_; (case aP => exact k59_mkM _ _ _ (⟨(rd_T59 t484 x14_1).f0, (rd_T59 t484 x14_1).f1⟩ : S59)); (case aB => exact (by repeat (first | (with_reducible first | exact HB.out | apply below_alloc | apply pw_below_drewN | apply below_drew1) | exact HB.out))); (case aF => exact (fun k_ hk => Kd.fresh' (Kd.R_lt (by (with_reducible repeat (first | apply Kd.R_alloc | apply Kd.R_drewN | apply Kd.R_drew)); exact HO_5.out)) k_ hk)); (case aO => exact (by (with_reducible repeat (first | apply Kd.R_alloc | apply Kd.R_drewN | apply Kd.R_drew)); exact HO_6.out)); (case aS => exact (below_size (by repeat (first | (with_reducible first | exact HB.out | apply below_alloc | apply pw_below_drewN | apply below_drew1) | exact HB.out)))); (case aL => have := LMc16.out; omega); intro v491 w17 ho hb hg hat; rw [← Ny490.out] at ho; have n0_ := Aside0.mk (Kd.R_after (ok := (fun _ => True)) (by (with_reducible repeat (first | apply Kd.R_alloc | apply Kd.R_drewN | apply Kd.R_drew)); exact Kd.R_mono HO_5.out (fun _ hk => ⟨trivial, hk⟩)) hg hat); have n1_ := Aside0.mk (hb); have n2_ := Aside0.mk (ho); clear HO_5; clear HB; clear HO_6; have HO_5 := n0_; have HB := n1_; have HO492 := n2_; clear n0_ n1_ n2_; clear ho hb hg hat)))
                      go_roundg k2
                      case measure => have := HK1.out; have := HK2.out; omega
                      case rel => exact ⟨(y490), (wrap64 (x14_1 + 1)), (by first | rfl | (simp; done) | (simp [*]; done) | (simp [*, q_isEmpty]; done)), H', ⟨by have := HK1.out; have := HK2.out; omega⟩, ⟨by (with_reducible repeat (first | apply Kd.R_alloc | apply Kd.R_drewN | apply Kd.R_drew)); exact Kd.R_mono HO_5.out (fun _ hk => hk.2)⟩, ⟨by (with_reducible repeat (first | apply Kd.R_alloc | apply Kd.R_drewN | apply Kd.R_drew)); exact HO492.out⟩, ⟨by repeat (first | (with_reducible first | exact HB.out | apply below_alloc | apply pw_below_drewN | apply below_drew1) | exact HB.out)⟩⟩
                    · rw [if_neg c16] at H
                      exact absurd H (by simp)
                  · rw [if_neg c15] at H
                    exact absurd H (by simp)
                · rw [if_neg c14] at H
                  exact absurd H (by simp)
      · rw [if_neg c6] at H
        have c6b0 : decide (x14_1 < (t484.length : Int)) = false := decide_eq_false c6
        clear c6
        obtain rfl := Option.some.inj H
        go_wp2
        repeat (go_quiet (fail); try go_wp2)
        go_ret
        exact ⟨_, by first | rfl | (simp [errW_none, errW_some] <;> rfl) | (simp [*, errW_none, errW_some] <;> rfl) | (simp [*, q_isEmpty]; done), by (with_reducible repeat (first | apply Kd.R_alloc | apply Kd.R_drewN | apply Kd.R_drew)); exact Kd.R_mono HO_6.out (fun _ hk => trivial), by repeat (first | (with_reducible first | exact HB.out | apply below_alloc | apply pw_below_drewN | apply below_drew1) | exact HB.out)⟩

end Go.Proofs.Ytikhlolhodgegaa.Q
