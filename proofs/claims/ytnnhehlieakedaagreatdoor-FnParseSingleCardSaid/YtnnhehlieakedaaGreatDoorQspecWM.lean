/- Printed for this seat by wip/pp.py of this repo; nothing here is trusted: Lean checks it. -/
import Derived.Test.YtnnhehlieakedaaGreatDoorQ0
namespace Go.Proofs.YtnnhehlieakedaaGreatDoor.Q
open Go.RowKit Go.Proofs.YtnnhehlieakedaaGreatDoorW.PrintWords Go.Proofs.YtnnhehlieakedaaGreatDoorW.PrintLast Go.Proofs.YtnnhehlieakedaaGreatDoorW.PrintMore
attribute [local go_sem] max2_int min2_int max_two min_two max_three min_three max_four min_four   -- for this text's walks alone
set_option linter.unusedVariables false
set_option linter.unusedSimpArgs false

/-! ### spec_within: function 82 -/
mutual
def spec_within.l0 : Nat → ByteArray → List Int → Int → Option (ByteArray × Int)
  | 0, _, _, _ => none
  | k + 1, x0, x4, x5 => if x5 < (wrap64 ((x0.size : Int) - 1)) then (if 0 ≤ x5 then (if x5 < (x0.size : Int) then (if (bt x0 x5) < 32 then (spec_within.j1 k x0 x4 x5 (bt x0 x5) true) else (spec_within.j1 k x0 x4 x5 (bt x0 x5) ((bt x0 x5) == 127))) else (none)) else (none)) else (some (strOfNums x4, 1))
def spec_within.j1 : Nat → ByteArray → List Int → Int → Int → Bool → Option (ByteArray × Int)
  | 0, _, _, _, _, _ => none
  | k + 1, x0, x4, x5, x6, x22 => if x22 = true then (some ((⟨#[]⟩ : ByteArray), 2)) else (if x6 = 92 then (if 0 ≤ (wrap64 (x5 + 1)) then (if (wrap64 (x5 + 1)) < (x0.size : Int) then (if (bt x0 (wrap64 (x5 + 1))) = 110 then (if x4.length < 140737488355328 then (spec_within.l0 k x0 (x4 ++ [10]) (wrap64 ((wrap64 (x5 + 1)) + 1))) else (none)) else (if (bt x0 (wrap64 (x5 + 1))) = 34 then (if x4.length < 140737488355328 then (spec_within.l0 k x0 (x4 ++ [bt x0 (wrap64 (x5 + 1))]) (wrap64 ((wrap64 (x5 + 1)) + 1))) else (none)) else (if (bt x0 (wrap64 (x5 + 1))) = 92 then (if x4.length < 140737488355328 then (spec_within.l0 k x0 (x4 ++ [bt x0 (wrap64 (x5 + 1))]) (wrap64 ((wrap64 (x5 + 1)) + 1))) else (none)) else (some ((⟨#[]⟩ : ByteArray), 2))))) else (none)) else (none)) else (if x4.length < 140737488355328 then (spec_within.l0 k x0 (x4 ++ [x6]) (wrap64 (x5 + 1))) else (none)))
end
def spec_within.f (k : Nat) (a0 : ByteArray) : Option (ByteArray × Int) := spec_within.l0 k a0 ([] : List Int) 1
theorem spec_within.mono_l : ∀ k, (∀ y0 y1 y2, LeO (spec_within.l0 k y0 y1 y2) (spec_within.l0 (k + 1) y0 y1 y2)) ∧ (∀ y0 y1 y2 y3 y4, LeO (spec_within.j1 k y0 y1 y2 y3 y4) (spec_within.j1 (k + 1) y0 y1 y2 y3 y4))
  | 0 => ⟨fun _ _ _ r h => by simp [spec_within.l0] at h, fun _ _ _ _ _ r h => by simp [spec_within.j1] at h⟩
  | k + 1 => by
    obtain ⟨ih0, ih1⟩ := spec_within.mono_l k
    refine ⟨?_, ?_⟩
    · intro y0 y1 y2
      unfold spec_within.l0
      repeat' first
      | (with_reducible exact ih0 _ _ _)
      | (with_reducible exact ih1 _ _ _ _ _)
      | (with_reducible exact LeO.refl _)
      | (with_reducible exact LeO.none _)
      | (with_reducible refine LeO.ite ?_ ?_)
      | (with_reducible refine LeO.bind ?_ (fun _ => ?_))
      | exact ih0 _ _ _
      | exact ih1 _ _ _ _ _
      | exact LeO.none _
      | refine LeO.ite ?_ ?_
      | refine LeO.bind ?_ (fun _ => ?_)
    · intro y0 y1 y2 y3 y4
      unfold spec_within.j1
      repeat' first
      | (with_reducible exact ih0 _ _ _)
      | (with_reducible exact ih1 _ _ _ _ _)
      | (with_reducible exact LeO.refl _)
      | (with_reducible exact LeO.none _)
      | (with_reducible refine LeO.ite ?_ ?_)
      | (with_reducible refine LeO.bind ?_ (fun _ => ?_))
      | exact ih0 _ _ _
      | exact ih1 _ _ _ _ _
      | exact LeO.none _
      | refine LeO.ite ?_ ?_
      | refine LeO.bind ?_ (fun _ => ?_)
theorem spec_within.mono : ∀ a0 k, LeO (spec_within.f k a0) (spec_within.f (k + 1) a0) := by
  intro a0 k
  obtain ⟨ih0, ih1⟩ := spec_within.mono_l k
  unfold spec_within.f
  repeat' first
      | (with_reducible exact ih0 _ _ _)
      | (with_reducible exact ih1 _ _ _ _ _)
      | (with_reducible exact LeO.refl _)
      | (with_reducible exact LeO.none _)
      | (with_reducible refine LeO.ite ?_ ?_)
      | (with_reducible refine LeO.bind ?_ (fun _ => ?_))
      | exact ih0 _ _ _
      | exact ih1 _ _ _ _ _
      | exact LeO.none _
      | refine LeO.ite ?_ ?_
      | refine LeO.bind ?_ (fun _ => ?_)
set_option maxHeartbeats 8000000 in
set_option maxRecDepth 100000 in
theorem spec_within.calls (k : Nat) (a0 : ByteArray) (r1 : ByteArray) (r2 : Int) (w : World) (h : spec_within.f k a0 = some (r1, r2)) :
    Calls Tryz.prog 82 #[.string a0] w fun e w' => e = .returned (.tuple #[.string r1, .int .i64 r2]) ∧ Below w.heap.size w w' := by
  have HB := Aside0.mk (Below.refl w.heap.size w)
  have H : (spec_within.l0 k a0 ([] : List Int) 1) = some (r1, r2) := h
  clear h
  have H' := Aside0.mk H
  clear H
  go_enter Tryz.func82, Tryz.ntmps82
  go_wp2
  go_loopg [4, 5] k (fun kq v4 v5 w' => ∃ (x4_1 : List Int) (x5_1 : Int), v5 = .int .i64 x5_1 ∧ Aside0 (spec_within.l0 kq a0 x4_1 x5_1 = some (r1, r2)) ∧ Aside0 (kq ≤ k) ∧ Aside0 (Kd.R (Kd.int .u8) 5 w' w.heap.size (fun _ => True) v4 x4_1) ∧ Aside0 (Below w.heap.size w w'))
  case atStart => exact ⟨(([] : List Int)), (1), (by first | rfl | (simp; done) | (simp [*]; done) | (simp [*, q_isEmpty]; done) | (simp [*]; exact q_gt _ _ (by assumption))), H', ⟨Nat.le_refl _⟩, ⟨by first | exact Kd.R_nil _ _ _ _ _ | exact Kd.N_nil _ _ _ _ _ | exact Kd.V_nil _ _ _ _ _ | exact Kd.Q_nil _ _ _ _ _ | exact Kd.S_nil _ _ _ _ _⟩, ⟨by repeat (first | (with_reducible first | exact HB.out | apply below_alloc | apply pw_below_drewN | apply below_drew1) | exact HB.out)⟩⟩
  case round =>
    clear H'
    obtain ⟨x4_1, x5_1, rfl, HA, HK1, HO_4, HB⟩ := hrel
    cases gk with
    | zero => exact absurd HA.out (by simp [spec_within.l0])
    | succ k1 =>
      have H := HA.out
      clear HA
      simp only [spec_within.l0] at H
      by_cases c2 : x5_1 < (wrap64 ((a0.size : Int) - 1))
      · rw [if_pos c2] at H
        have c2b0 : decide (x5_1 < (wrap64 ((a0.size : Int) - 1))) = true := decide_eq_true c2
        clear c2
        by_cases c3 : 0 ≤ x5_1
        · rw [if_pos c3] at H
          have c3b0 : decide (0 ≤ x5_1) = true := decide_eq_true c3
          clear c3
          by_cases c4 : x5_1 < (a0.size : Int)
          · rw [if_pos c4] at H
            have c4b0 : decide (x5_1 < (a0.size : Int)) = true := decide_eq_true c4
            clear c4
            have HC6 := Aside0.mk H
            clear H
            have p5 : 0 ≤ (x5_1 : Int) := of_decide_eq_true (by first | (with_reducible assumption) | assumption)
            have q5 : x5_1 < (a0.size : Int) := of_decide_eq_true (by first | (with_reducible assumption) | assumption)
            have hx5 := bt_at a0 x5_1
            replace p5 := eq_true p5
            replace q5 := eq_true q5
            go_upto_region 6 with (fail)
            go_cut [22] (fun v22 wc => ∃ (kq : Nat) (x22_5 : Bool), v22 = .bool x22_5 ∧ Aside0 (spec_within.j1 kq a0 x4_1 x5_1 (bt a0 x5_1) x22_5 = some (r1, r2)) ∧ Aside0 (kq ≤ k1) ∧ Aside0 (Kd.R (Kd.int .u8) 5 wc w.heap.size (fun _ => True) u4 x4_1) ∧ Aside0 (Below w.heap.size w wc))
            case first =>
              have H := HC6.out
              clear HC6
              by_cases c7 : (bt a0 x5_1) < 32
              · rw [if_pos c7] at H
                have c7b0 : decide ((bt a0 x5_1) < 32) = true := decide_eq_true c7
                clear c7
                (first | rw [c7b0] | (simp only [i64_w, i32_w]; rw [c7b0]) | skip)
                have H' := Aside0.mk H
                clear H
                go_wp2
                go_meet
                case rel => exact ⟨_, (true), (by first | rfl | (simp; done) | (simp [*]; done) | (simp [*, q_isEmpty]; done) | (simp [*]; exact q_gt _ _ (by assumption))), H', ⟨by have := HK1.out; first | omega | exact Nat.le_refl _⟩, ⟨by (with_reducible repeat (first | apply Kd.R_alloc | apply Kd.R_drewN | apply Kd.R_drew)); exact HO_4.out⟩, ⟨by repeat (first | (with_reducible first | exact HB.out | apply below_alloc | apply pw_below_drewN | apply below_drew1) | exact HB.out)⟩⟩
              · rw [if_neg c7] at H
                have c7b0 : decide ((bt a0 x5_1) < 32) = false := decide_eq_false c7
                clear c7
                (first | rw [c7b0] | (simp only [i64_w, i32_w]; rw [c7b0]) | skip)
                have H' := Aside0.mk H
                clear H
                go_wp2
                go_meet
                case rel => exact ⟨_, (((bt a0 x5_1) == 127)), (by first | rfl | (simp; done) | (simp [*]; done) | (simp [*, q_isEmpty]; done) | (simp [*]; exact q_gt _ _ (by assumption))), H', ⟨by have := HK1.out; first | omega | exact Nat.le_refl _⟩, ⟨by (with_reducible repeat (first | apply Kd.R_alloc | apply Kd.R_drewN | apply Kd.R_drew)); exact HO_4.out⟩, ⟨by repeat (first | (with_reducible first | exact HB.out | apply below_alloc | apply pw_below_drewN | apply below_drew1) | exact HB.out)⟩⟩
            case rest =>
              clear HC6
              try clear c2
              try clear c2b0
              try clear p2
              try clear c3
              try clear c3b0
              try clear c4
              try clear c4b0
              try clear p5
              try clear q5
              try clear hx5
              try clear p6
              try clear c7
              try clear c7b0
              try clear p5
              try clear q5
              obtain ⟨kq, x22_5, rfl, HA, HJ5, HO_4, HB⟩ := hcut
              cases kq with
              | zero => exact absurd HA.out (by simp [spec_within.j1])
              | succ kj5 =>
                have H := HA.out
                clear HA
                simp only [spec_within.j1] at H
                by_cases c8 : x22_5 = true
                · subst c8
                  have H1 : (some ((⟨#[]⟩ : ByteArray), 2)) = some (r1, r2) := by rw [if_pos rfl] at H; exact H
                  clear H
                  have H := H1
                  clear H1
                  simp only [Option.some.injEq, Prod.mk.injEq] at H
                  obtain ⟨rfl, rfl⟩ := H
                  go_wp2
                  go_ret2
                  exact ⟨by first | rfl | (simp [errW_none, errW_some] <;> rfl) | (simp [*, errW_none, errW_some] <;> rfl) | (simp [*, q_isEmpty]; done) | (simp [*]; exact q_gt _ _ (by assumption)), by repeat (first | (with_reducible first | exact HB.out | apply below_alloc | apply pw_below_drewN | apply below_drew1) | exact HB.out)⟩
                · replace c8 := Bool.eq_false_iff.mpr c8
                  subst c8
                  have H1 : (if (bt a0 x5_1) = 92 then (if 0 ≤ (wrap64 (x5_1 + 1)) then (if (wrap64 (x5_1 + 1)) < (a0.size : Int) then (if (bt a0 (wrap64 (x5_1 + 1))) = 110 then (if x4_1.length < 140737488355328 then (spec_within.l0 kj5 a0 (x4_1 ++ [10]) (wrap64 ((wrap64 (x5_1 + 1)) + 1))) else (none)) else (if (bt a0 (wrap64 (x5_1 + 1))) = 34 then (if x4_1.length < 140737488355328 then (spec_within.l0 kj5 a0 (x4_1 ++ [bt a0 (wrap64 (x5_1 + 1))]) (wrap64 ((wrap64 (x5_1 + 1)) + 1))) else (none)) else (if (bt a0 (wrap64 (x5_1 + 1))) = 92 then (if x4_1.length < 140737488355328 then (spec_within.l0 kj5 a0 (x4_1 ++ [bt a0 (wrap64 (x5_1 + 1))]) (wrap64 ((wrap64 (x5_1 + 1)) + 1))) else (none)) else (some ((⟨#[]⟩ : ByteArray), 2))))) else (none)) else (none)) else (if x4_1.length < 140737488355328 then (spec_within.l0 kj5 a0 (x4_1 ++ [(bt a0 x5_1)]) (wrap64 (x5_1 + 1))) else (none))) = some (r1, r2) := by rw [if_neg (show ¬ (false = true) by decide)] at H; exact H
                  clear H
                  have H := H1
                  clear H1
                  by_cases c9 : (bt a0 x5_1) = 92
                  · rw [if_pos c9] at H
                    have c9b0 : ((bt a0 x5_1) == 92) = true := beq_iff_eq.mpr c9
                    have c9b1 : ((bt a0 x5_1) != 92) = false := bne_eq_false_iff_eq.mpr c9
                    clear c9
                    obtain ⟨ji10, hji10⟩ : ∃ j_ : Int, (wrap64 (x5_1 + 1)) = j_ := ⟨_, rfl⟩
                    replace H : (if 0 ≤ (ji10) then (if (ji10) < (a0.size : Int) then (if (bt a0 (ji10)) = 110 then (if x4_1.length < 140737488355328 then (spec_within.l0 kj5 a0 (x4_1 ++ [10]) (wrap64 ((ji10) + 1))) else (none)) else (if (bt a0 (ji10)) = 34 then (if x4_1.length < 140737488355328 then (spec_within.l0 kj5 a0 (x4_1 ++ [bt a0 (ji10)]) (wrap64 ((ji10) + 1))) else (none)) else (if (bt a0 (ji10)) = 92 then (if x4_1.length < 140737488355328 then (spec_within.l0 kj5 a0 (x4_1 ++ [bt a0 (ji10)]) (wrap64 ((ji10) + 1))) else (none)) else (some ((⟨#[]⟩ : ByteArray), 2))))) else (none)) else (none)) = some (r1, r2) := by first | (rw [hji10] at H; exact H) | (simp only [hji10] at H ⊢; exact H)
                    have hji10w : (IntKind.i64.wrap (x5_1 + 1)) = ji10 := (i64_w _).trans hji10
                    by_cases c11 : 0 ≤ (ji10)
                    · rw [if_pos c11] at H
                      have c11b0 : decide (0 ≤ (ji10)) = true := decide_eq_true c11
                      clear c11
                      by_cases c12 : (ji10) < (a0.size : Int)
                      · rw [if_pos c12] at H
                        have c12b0 : decide ((ji10) < (a0.size : Int)) = true := decide_eq_true c12
                        clear c12
                        by_cases c14 : (bt a0 (ji10)) = 110
                        · rw [if_pos c14] at H
                          have c14b0 : ((bt a0 (ji10)) == 110) = true := beq_iff_eq.mpr c14
                          have c14b1 : ((bt a0 (ji10)) != 110) = false := bne_eq_false_iff_eq.mpr c14
                          clear c14
                          by_cases c15 : x4_1.length < 140737488355328
                          · rw [if_pos c15] at H
                            have LMc15 := Aside0.mk c15
                            clear c15
                            obtain ⟨y136, hy136⟩ : ∃ y_ : List Int, y_ = (x4_1 ++ [10]) := ⟨_, rfl⟩
                            replace H : (spec_within.l0 kj5 a0 y136 (wrap64 ((ji10) + 1))) = some (r1, r2) := by first | (rw [hy136]; with_reducible exact H) | (have H2_ := (Option.bind_some _ _).symm.trans H; rw [hy136]; with_reducible exact H2_) | (have H2_ := (Option.bind_some _ _).symm.trans H; with_reducible exact H2_) | with_reducible exact H | (rw [hy136]; exact H) | exact H
                            have Ny136 := Aside0.mk hy136
                            clear hy136
                            have H' := Aside0.mk H
                            clear H
                            have p13 : 0 ≤ ((ji10) : Int) := of_decide_eq_true (by first | (with_reducible assumption) | assumption)
                            have q13 : (ji10) < (a0.size : Int) := of_decide_eq_true (by first | (with_reducible assumption) | assumption)
                            have hx13 := bt_at a0 (ji10)
                            replace p13 := eq_true p13
                            replace q13 := eq_true q13
                            go_wp2_with (first | ((with_reducible refine gate_builtin (b := .append) (xs := #[.tmp 38, .tmp 40]) rfl ?_); at_builtin; refine Kd.R_append (Kd.int .u8) (w0 := w) w.heap.size rfl (.tmp 38) (.tmp 40) 94 5 (.int .u8 0) 1 rfl Tryz.underlying94 info5 rfl (by decide) (by omega) u4 x4_1 10 [.int .u8 10] (fun _ => True) (fun _ => False) rfl rfl ?aP (fun _ hk => hk.elim) ?aF ?aO ?aB ?aS ?aL ?_; (case aP => exact rfl); (case aB => exact (by repeat (first | (with_reducible first | exact HB.out | apply below_alloc | apply pw_below_drewN | apply below_drew1) | exact HB.out))); (case aF => exact (fun _ _ => trivial)); (case aO => exact (by (with_reducible repeat (first | apply Kd.R_alloc | apply Kd.R_drewN | apply Kd.R_drew)); exact HO_4.out)); (case aS => exact (below_size (by repeat (first | (with_reducible first | exact HB.out | apply below_alloc | apply pw_below_drewN | apply below_drew1) | exact HB.out)))); (case aL => have := LMc15.out; omega); intro v137 w16 ho hb hg hat; rw [← Ny136.out] at ho; have n0_ := Aside0.mk (hb); have n1_ := Aside0.mk (ho); clear HB; clear HO_4; have HB := n0_; have HO138 := n1_; clear n0_ n1_; clear ho hb hg hat))
                            go_roundg kj5
                            case measure => have := HK1.out; have := HJ5.out; omega
                            case rel => exact ⟨(y136), (wrap64 ((ji10) + 1)), (by first | rfl | (simp; done) | (simp only [← hji10] <;> (first | rfl | simp)) | (simp [*]; done) | (simp [*, q_isEmpty]; done) | (simp [*]; exact q_gt _ _ (by assumption))), H', ⟨by have := HK1.out; have := HJ5.out; omega⟩, ⟨by (with_reducible repeat (first | apply Kd.R_alloc | apply Kd.R_drewN | apply Kd.R_drew)); exact HO138.out⟩, ⟨by repeat (first | (with_reducible first | exact HB.out | apply below_alloc | apply pw_below_drewN | apply below_drew1) | exact HB.out)⟩⟩
                          · rw [if_neg c15] at H
                            exact absurd H (by simp)
                        · rw [if_neg c14] at H
                          have c14b0 : ((bt a0 (ji10)) == 110) = false := beq_eq_false_iff_ne.mpr c14
                          have c14b1 : ((bt a0 (ji10)) != 110) = true := bne_iff_ne.mpr c14
                          by_cases c17 : (bt a0 (ji10)) = 34
                          · rw [if_pos c17] at H
                            have c17b0 : ((bt a0 (ji10)) == 34) = true := beq_iff_eq.mpr c17
                            have c17b1 : ((bt a0 (ji10)) != 34) = false := bne_eq_false_iff_eq.mpr c17
                            clear c17
                            by_cases c19 : x4_1.length < 140737488355328
                            · rw [if_pos c19] at H
                              have LMc19 := Aside0.mk c19
                              clear c19
                              obtain ⟨y139, hy139⟩ : ∃ y_ : List Int, y_ = (x4_1 ++ [bt a0 (ji10)]) := ⟨_, rfl⟩
                              replace H : (spec_within.l0 kj5 a0 y139 (wrap64 ((ji10) + 1))) = some (r1, r2) := by first | (rw [hy139]; with_reducible exact H) | (have H2_ := (Option.bind_some _ _).symm.trans H; rw [hy139]; with_reducible exact H2_) | (have H2_ := (Option.bind_some _ _).symm.trans H; with_reducible exact H2_) | with_reducible exact H | (rw [hy139]; exact H) | exact H
                              have Ny139 := Aside0.mk hy139
                              clear hy139
                              have H' := Aside0.mk H
                              clear H
                              have p13 : 0 ≤ ((ji10) : Int) := of_decide_eq_true (by first | (with_reducible assumption) | assumption)
                              have q13 : (ji10) < (a0.size : Int) := of_decide_eq_true (by first | (with_reducible assumption) | assumption)
                              have hx13 := bt_at a0 (ji10)
                              replace p13 := eq_true p13
                              replace q13 := eq_true q13
                              have p18 : 0 ≤ ((ji10) : Int) := of_decide_eq_true (by first | (with_reducible assumption) | assumption)
                              have q18 : (ji10) < (a0.size : Int) := of_decide_eq_true (by first | (with_reducible assumption) | assumption)
                              have hx18 := bt_at a0 (ji10)
                              replace p18 := eq_true p18
                              replace q18 := eq_true q18
                              go_wp2_with (first | ((with_reducible refine gate_builtin (b := .append) (xs := #[.tmp 38, .tmp 40]) rfl ?_); at_builtin; refine Kd.R_append (Kd.int .u8) (w0 := w) w.heap.size rfl (.tmp 38) (.tmp 40) 94 5 (.int .u8 0) 1 rfl Tryz.underlying94 info5 rfl (by decide) (by omega) u4 x4_1 (bt a0 (ji10)) [.int .u8 (bt a0 (ji10))] (fun _ => True) (fun _ => False) rfl rfl ?aP (fun _ hk => hk.elim) ?aF ?aO ?aB ?aS ?aL ?_; (case aP => exact rfl); (case aB => exact (by repeat (first | (with_reducible first | exact HB.out | apply below_alloc | apply pw_below_drewN | apply below_drew1) | exact HB.out))); (case aF => exact (fun _ _ => trivial)); (case aO => exact (by (with_reducible repeat (first | apply Kd.R_alloc | apply Kd.R_drewN | apply Kd.R_drew)); exact HO_4.out)); (case aS => exact (below_size (by repeat (first | (with_reducible first | exact HB.out | apply below_alloc | apply pw_below_drewN | apply below_drew1) | exact HB.out)))); (case aL => have := LMc19.out; omega); intro v140 w20 ho hb hg hat; rw [← Ny139.out] at ho; have n0_ := Aside0.mk (hb); have n1_ := Aside0.mk (ho); clear HB; clear HO_4; have HB := n0_; have HO141 := n1_; clear n0_ n1_; clear ho hb hg hat))
                              go_roundg kj5
                              case measure => have := HK1.out; have := HJ5.out; omega
                              case rel => exact ⟨(y139), (wrap64 ((ji10) + 1)), (by first | rfl | (simp; done) | (simp only [← hji10] <;> (first | rfl | simp)) | (simp [*]; done) | (simp [*, q_isEmpty]; done) | (simp [*]; exact q_gt _ _ (by assumption))), H', ⟨by have := HK1.out; have := HJ5.out; omega⟩, ⟨by (with_reducible repeat (first | apply Kd.R_alloc | apply Kd.R_drewN | apply Kd.R_drew)); exact HO141.out⟩, ⟨by repeat (first | (with_reducible first | exact HB.out | apply below_alloc | apply pw_below_drewN | apply below_drew1) | exact HB.out)⟩⟩
                            · rw [if_neg c19] at H
                              exact absurd H (by simp)
                          · rw [if_neg c17] at H
                            have c17b0 : ((bt a0 (ji10)) == 34) = false := beq_eq_false_iff_ne.mpr c17
                            have c17b1 : ((bt a0 (ji10)) != 34) = true := bne_iff_ne.mpr c17
                            by_cases c21 : (bt a0 (ji10)) = 92
                            · rw [if_pos c21] at H
                              have c21b0 : ((bt a0 (ji10)) == 92) = true := beq_iff_eq.mpr c21
                              have c21b1 : ((bt a0 (ji10)) != 92) = false := bne_eq_false_iff_eq.mpr c21
                              clear c21
                              by_cases c23 : x4_1.length < 140737488355328
                              · rw [if_pos c23] at H
                                have LMc23 := Aside0.mk c23
                                clear c23
                                obtain ⟨y142, hy142⟩ : ∃ y_ : List Int, y_ = (x4_1 ++ [bt a0 (ji10)]) := ⟨_, rfl⟩
                                replace H : (spec_within.l0 kj5 a0 y142 (wrap64 ((ji10) + 1))) = some (r1, r2) := by first | (rw [hy142]; with_reducible exact H) | (have H2_ := (Option.bind_some _ _).symm.trans H; rw [hy142]; with_reducible exact H2_) | (have H2_ := (Option.bind_some _ _).symm.trans H; with_reducible exact H2_) | with_reducible exact H | (rw [hy142]; exact H) | exact H
                                have Ny142 := Aside0.mk hy142
                                clear hy142
                                have H' := Aside0.mk H
                                clear H
                                have p13 : 0 ≤ ((ji10) : Int) := of_decide_eq_true (by first | (with_reducible assumption) | assumption)
                                have q13 : (ji10) < (a0.size : Int) := of_decide_eq_true (by first | (with_reducible assumption) | assumption)
                                have hx13 := bt_at a0 (ji10)
                                replace p13 := eq_true p13
                                replace q13 := eq_true q13
                                have p22 : 0 ≤ ((ji10) : Int) := of_decide_eq_true (by first | (with_reducible assumption) | assumption)
                                have q22 : (ji10) < (a0.size : Int) := of_decide_eq_true (by first | (with_reducible assumption) | assumption)
                                have hx22 := bt_at a0 (ji10)
                                replace p22 := eq_true p22
                                replace q22 := eq_true q22
                                go_wp2_with (first | ((with_reducible refine gate_builtin (b := .append) (xs := #[.tmp 38, .tmp 40]) rfl ?_); at_builtin; refine Kd.R_append (Kd.int .u8) (w0 := w) w.heap.size rfl (.tmp 38) (.tmp 40) 94 5 (.int .u8 0) 1 rfl Tryz.underlying94 info5 rfl (by decide) (by omega) u4 x4_1 (bt a0 (ji10)) [.int .u8 (bt a0 (ji10))] (fun _ => True) (fun _ => False) rfl rfl ?aP (fun _ hk => hk.elim) ?aF ?aO ?aB ?aS ?aL ?_; (case aP => exact rfl); (case aB => exact (by repeat (first | (with_reducible first | exact HB.out | apply below_alloc | apply pw_below_drewN | apply below_drew1) | exact HB.out))); (case aF => exact (fun _ _ => trivial)); (case aO => exact (by (with_reducible repeat (first | apply Kd.R_alloc | apply Kd.R_drewN | apply Kd.R_drew)); exact HO_4.out)); (case aS => exact (below_size (by repeat (first | (with_reducible first | exact HB.out | apply below_alloc | apply pw_below_drewN | apply below_drew1) | exact HB.out)))); (case aL => have := LMc23.out; omega); intro v143 w24 ho hb hg hat; rw [← Ny142.out] at ho; have n0_ := Aside0.mk (hb); have n1_ := Aside0.mk (ho); clear HB; clear HO_4; have HB := n0_; have HO144 := n1_; clear n0_ n1_; clear ho hb hg hat))
                                go_roundg kj5
                                case measure => have := HK1.out; have := HJ5.out; omega
                                case rel => exact ⟨(y142), (wrap64 ((ji10) + 1)), (by first | rfl | (simp; done) | (simp only [← hji10] <;> (first | rfl | simp)) | (simp [*]; done) | (simp [*, q_isEmpty]; done) | (simp [*]; exact q_gt _ _ (by assumption))), H', ⟨by have := HK1.out; have := HJ5.out; omega⟩, ⟨by (with_reducible repeat (first | apply Kd.R_alloc | apply Kd.R_drewN | apply Kd.R_drew)); exact HO144.out⟩, ⟨by repeat (first | (with_reducible first | exact HB.out | apply below_alloc | apply pw_below_drewN | apply below_drew1) | exact HB.out)⟩⟩
                              · rw [if_neg c23] at H
                                exact absurd H (by simp)
                            · rw [if_neg c21] at H
                              have c21b0 : ((bt a0 (ji10)) == 92) = false := beq_eq_false_iff_ne.mpr c21
                              have c21b1 : ((bt a0 (ji10)) != 92) = true := bne_iff_ne.mpr c21
                              simp only [Option.some.injEq, Prod.mk.injEq] at H
                              obtain ⟨rfl, rfl⟩ := H
                              have p13 : 0 ≤ ((ji10) : Int) := of_decide_eq_true (by first | (with_reducible assumption) | assumption)
                              have q13 : (ji10) < (a0.size : Int) := of_decide_eq_true (by first | (with_reducible assumption) | assumption)
                              have hx13 := bt_at a0 (ji10)
                              replace p13 := eq_true p13
                              replace q13 := eq_true q13
                              go_wp2
                              go_ret2
                              exact ⟨by first | rfl | (simp [errW_none, errW_some] <;> rfl) | (simp only [← hji10]; first | rfl | (simp [errW_none, errW_some] <;> rfl)) | (simp [*, errW_none, errW_some] <;> rfl) | (simp [*, q_isEmpty]; done) | (simp [*]; exact q_gt _ _ (by assumption)), by repeat (first | (with_reducible first | exact HB.out | apply below_alloc | apply pw_below_drewN | apply below_drew1) | exact HB.out)⟩
                      · rw [if_neg c12] at H
                        exact absurd H (by simp)
                    · rw [if_neg c11] at H
                      exact absurd H (by simp)
                  · rw [if_neg c9] at H
                    have c9b0 : ((bt a0 x5_1) == 92) = false := beq_eq_false_iff_ne.mpr c9
                    have c9b1 : ((bt a0 x5_1) != 92) = true := bne_iff_ne.mpr c9
                    by_cases c25 : x4_1.length < 140737488355328
                    · rw [if_pos c25] at H
                      have LMc25 := Aside0.mk c25
                      clear c25
                      obtain ⟨y145, hy145⟩ : ∃ y_ : List Int, y_ = (x4_1 ++ [(bt a0 x5_1)]) := ⟨_, rfl⟩
                      replace H : (spec_within.l0 kj5 a0 y145 (wrap64 (x5_1 + 1))) = some (r1, r2) := by first | (rw [hy145]; with_reducible exact H) | (have H2_ := (Option.bind_some _ _).symm.trans H; rw [hy145]; with_reducible exact H2_) | (have H2_ := (Option.bind_some _ _).symm.trans H; with_reducible exact H2_) | with_reducible exact H | (rw [hy145]; exact H) | exact H
                      have Ny145 := Aside0.mk hy145
                      clear hy145
                      have H' := Aside0.mk H
                      clear H
                      go_wp2_with (first | ((with_reducible refine gate_builtin (b := .append) (xs := #[.tmp 38, .tmp 40]) rfl ?_); at_builtin; refine Kd.R_append (Kd.int .u8) (w0 := w) w.heap.size rfl (.tmp 38) (.tmp 40) 94 5 (.int .u8 0) 1 rfl Tryz.underlying94 info5 rfl (by decide) (by omega) u4 x4_1 (bt a0 x5_1) [.int .u8 (bt a0 x5_1)] (fun _ => True) (fun _ => False) rfl rfl ?aP (fun _ hk => hk.elim) ?aF ?aO ?aB ?aS ?aL ?_; (case aP => exact rfl); (case aB => exact (by repeat (first | (with_reducible first | exact HB.out | apply below_alloc | apply pw_below_drewN | apply below_drew1) | exact HB.out))); (case aF => exact (fun _ _ => trivial)); (case aO => exact (by (with_reducible repeat (first | apply Kd.R_alloc | apply Kd.R_drewN | apply Kd.R_drew)); exact HO_4.out)); (case aS => exact (below_size (by repeat (first | (with_reducible first | exact HB.out | apply below_alloc | apply pw_below_drewN | apply below_drew1) | exact HB.out)))); (case aL => have := LMc25.out; omega); intro v146 w26 ho hb hg hat; rw [← Ny145.out] at ho; have n0_ := Aside0.mk (hb); have n1_ := Aside0.mk (ho); clear HB; clear HO_4; have HB := n0_; have HO147 := n1_; clear n0_ n1_; clear ho hb hg hat))
                      go_roundg kj5
                      case measure => have := HK1.out; have := HJ5.out; omega
                      case rel => exact ⟨(y145), (wrap64 (x5_1 + 1)), (by first | rfl | (simp; done) | (simp [*]; done) | (simp [*, q_isEmpty]; done) | (simp [*]; exact q_gt _ _ (by assumption))), H', ⟨by have := HK1.out; have := HJ5.out; omega⟩, ⟨by (with_reducible repeat (first | apply Kd.R_alloc | apply Kd.R_drewN | apply Kd.R_drew)); exact HO147.out⟩, ⟨by repeat (first | (with_reducible first | exact HB.out | apply below_alloc | apply pw_below_drewN | apply below_drew1) | exact HB.out)⟩⟩
                    · rw [if_neg c25] at H
                      exact absurd H (by simp)
          · rw [if_neg c4] at H
            exact absurd H (by simp)
        · rw [if_neg c3] at H
          exact absurd H (by simp)
      · rw [if_neg c2] at H
        have c2b0 : decide (x5_1 < (wrap64 ((a0.size : Int) - 1))) = false := decide_eq_false c2
        clear c2
        simp only [Option.some.injEq, Prod.mk.injEq] at H
        obtain ⟨rfl, rfl⟩ := H
        have hcv27 := own_string (P := Tryz.prog) Tryz.underlying94 Tryz.underlying5 Tryz.underlying9 (Kd.own_of_R HO_4.out)
        go_wp2
        go_ret2
        exact ⟨by first | rfl | (simp [errW_none, errW_some] <;> rfl) | (simp [*, errW_none, errW_some] <;> rfl) | (simp [*, q_isEmpty]; done) | (simp [*]; exact q_gt _ _ (by assumption)), by repeat (first | (with_reducible first | exact HB.out | apply below_alloc | apply pw_below_drewN | apply below_drew1) | exact HB.out)⟩

end Go.Proofs.YtnnhehlieakedaaGreatDoor.Q
namespace Go.Proofs.YtnnhehlieakedaaGreatDoor.Q
open Go.RowKit Go.Proofs.YtnnhehlieakedaaGreatDoorW.PrintWords Go.Proofs.YtnnhehlieakedaaGreatDoorW.PrintLast Go.Proofs.YtnnhehlieakedaaGreatDoorW.PrintMore
attribute [local go_sem] max2_int min2_int max_two min_two max_three min_three max_four min_four   -- for this text's walks alone
set_option linter.unusedVariables false
set_option linter.unusedSimpArgs false

/-! ### spec_word: function 66 -/
def spec_word.f (k : Nat) (a0_0 : Int) (a0_1 : ByteArray) (a0_2 : Int) (a0_3 : Int) (a0_4 : Int) (a0_5 : Int) : Option (ByteArray × Int) := if a0_0 = 8 then ((spec_within.f k a0_1).bind fun bt149 => (some (bt149.1, bt149.2))) else (if a0_0 = 9 then (some (a0_1, 1)) else (some ((⟨#[]⟩ : ByteArray), 0)))
theorem spec_word.mono : ∀ a0 a1 a2 a3 a4 a5 k, LeO (spec_word.f k a0 a1 a2 a3 a4 a5) (spec_word.f (k + 1) a0 a1 a2 a3 a4 a5) := by
  intro a0 a1 a2 a3 a4 a5 k
  unfold spec_word.f
  repeat' first
      | (with_reducible exact spec_within.mono _ _)
      | (with_reducible exact LeO.refl _)
      | (with_reducible exact LeO.none _)
      | (with_reducible refine LeO.ite ?_ ?_)
      | (with_reducible refine LeO.bind ?_ (fun _ => ?_))
      | exact spec_within.mono _ _
      | exact LeO.none _
      | refine LeO.ite ?_ ?_
      | refine LeO.bind ?_ (fun _ => ?_)
set_option maxHeartbeats 8000000 in
set_option maxRecDepth 100000 in
theorem spec_word.calls (k : Nat) (a0_0 : Int) (a0_1 : ByteArray) (a0_2 : Int) (a0_3 : Int) (a0_4 : Int) (a0_5 : Int) (r1 : ByteArray) (r2 : Int) (w : World) (h : spec_word.f k a0_0 a0_1 a0_2 a0_3 a0_4 a0_5 = some (r1, r2)) :
    Calls Tryz.prog 66 #[.agg #[.int .i64 a0_0, .string a0_1, .int .i64 a0_2, .int .i64 a0_3, .int .i64 a0_4, .int .i64 a0_5]] w fun e w' => e = .returned (.tuple #[.string r1, .int .i64 r2]) ∧ Below w.heap.size w w' := by
  have hu61 := Tryz.underlying61
  have HB := Aside0.mk (Below.refl w.heap.size w)
  have H : (if a0_0 = 8 then ((spec_within.f k a0_1).bind fun bt149 => (some (bt149.1, bt149.2))) else (if a0_0 = 9 then (some (a0_1, 1)) else (some ((⟨#[]⟩ : ByteArray), 0)))) = some (r1, r2) := h
  clear h
  by_cases c2 : a0_0 = 8
  · rw [if_pos c2] at H
    have c2b0 : (a0_0 == 8) = true := beq_iff_eq.mpr c2
    have c2b1 : (a0_0 != 8) = false := bne_eq_false_iff_eq.mpr c2
    clear c2
    replace H := Option.bind_eq_some_iff.mp H
    obtain ⟨⟨t149, t150⟩, A30, H⟩ := H
    replace H : (some (t149, t150)) = some (r1, r2) := H
    have A3 := Aside0.mk A30
    clear A30
    simp only [Option.some.injEq, Prod.mk.injEq] at H
    obtain ⟨rfl, rfl⟩ := H
    go_enter Tryz.func66, Tryz.ntmps66
    go_wp2_with (first | ((with_reducible refine gate_dst (N := 1) rfl ?_); refine box_event ?hg (N := 1) ?hd (cs := #[.int .i64 a0_0, .string a0_1, .int .i64 a0_2, .int .i64 a0_3, .int .i64 a0_4, .int .i64 a0_5]) (t := 61) ?hr ?_; (case hd => rfl); (case hg => rfl); (case hr => first | (go_simp; done) | (go_simp; rfl)); intro gb148 hg w4 hbox hb; have n0_ := Aside0.mk (below_step (by repeat (first | (with_reducible first | exact HB.out | apply below_alloc | apply pw_below_drewN | apply below_drew1) | exact HB.out)) hb); have n1_ := Aside0.mk (hbox); have n2_ := Aside0.mk ((by rw [hg]; exact (below_size (by repeat (first | (with_reducible first | exact HB.out | apply below_alloc | apply pw_below_drewN | apply below_drew1) | exact HB.out))) : w.heap.size ≤ gb148)); have n3_ := Aside0.mk ((by rw [hg]; exact (below_size (by repeat (first | (with_reducible first | exact HB.out | apply below_alloc | apply pw_below_drewN | apply below_drew1) | exact HB.out))) : w.heap.size ≤ gb148)); clear HB; have HB := n0_; have BK148 := n1_; have GW148 := n2_; have GE148 := n3_; clear n0_ n1_ n2_ n3_; clear hb hbox hg; have hcz5_0 : w4.cell? ⟨gb148, 0, none⟩ = some (.int .i64 a0_0) := (blk_cell BK148.out 0).trans rfl; have hcz5_1 : w4.cell? ⟨gb148, 1, none⟩ = some (.string a0_1) := (blk_cell BK148.out 1).trans rfl; have hcz5_2 : w4.cell? ⟨gb148, 2, none⟩ = some (.int .i64 a0_2) := (blk_cell BK148.out 2).trans rfl; have hcz5_3 : w4.cell? ⟨gb148, 3, none⟩ = some (.int .i64 a0_3) := (blk_cell BK148.out 3).trans rfl; have hcz5_4 : w4.cell? ⟨gb148, 4, none⟩ = some (.int .i64 a0_4) := (blk_cell BK148.out 4).trans rfl; have hcz5_5 : w4.cell? ⟨gb148, 5, none⟩ = some (.int .i64 a0_5) := (blk_cell BK148.out 5).trans rfl; have hfz5_0 := blk_frozen BK148.out 0; have hfz5_1 := blk_frozen BK148.out 1; have hfz5_2 := blk_frozen BK148.out 2; have hfz5_3 := blk_frozen BK148.out 3; have hfz5_4 := blk_frozen BK148.out 4; have hfz5_5 := blk_frozen BK148.out 5) | ((with_reducible refine gate_callee (f := 82) rfl ?_); refine goesL_ (some 10) rfl rfl Tryz.func82 (by kernel_rfl) rfl #[.string a0_1] rfl (by (try simp only [List.map_toArray, List.map_cons, List.map_nil]); first | done | rfl | (simp only [List.length_drop, List.length_take]; rfl)) ?_; (with_reducible refine (spec_within.calls k a0_1 t149 t150 _ A3.out).mono ?_); rintro e w6 ⟨rfl, hb⟩; refine ⟨_, rfl, ?_⟩; have n0_ := Aside0.mk (blk_below (g := gb148) (o := .cells #[.int .i64 a0_0, .string a0_1, .int .i64 a0_2, .int .i64 a0_3, .int .i64 a0_4, .int .i64 a0_5] 61 (0, 0)) (by (with_reducible repeat (first | refine blk_drewN ?_ _ | refine blk_drew ?_ | refine blk_alloc ?_ _)); exact BK148.out) hb); have n1_ := Aside0.mk (below_step (by repeat (first | (with_reducible first | exact HB.out | apply below_alloc | apply pw_below_drewN | apply below_drew1 | refine below_set ?_ GE148.out) | exact HB.out)) hb); clear BK148; clear HB; have BK148 := n0_; have HB := n1_; clear n0_ n1_; (try clear hb); (try clear hb2); (try clear hk); (try clear hi)))
    go_ret2
    exact ⟨by first | rfl | (simp [errW_none, errW_some] <;> rfl) | (simp [*, errW_none, errW_some] <;> rfl) | (simp [*, q_isEmpty]; done) | (simp [*]; exact q_gt _ _ (by assumption)), by repeat (first | (with_reducible first | exact HB.out | apply below_alloc | apply pw_below_drewN | apply below_drew1 | refine below_set ?_ GE148.out) | exact HB.out)⟩
  · rw [if_neg c2] at H
    have c2b0 : (a0_0 == 8) = false := beq_eq_false_iff_ne.mpr c2
    have c2b1 : (a0_0 != 8) = true := bne_iff_ne.mpr c2
    by_cases c7 : a0_0 = 9
    · rw [if_pos c7] at H
      have c7b0 : (a0_0 == 9) = true := beq_iff_eq.mpr c7
      have c7b1 : (a0_0 != 9) = false := bne_eq_false_iff_eq.mpr c7
      clear c7
      simp only [Option.some.injEq, Prod.mk.injEq] at H
      obtain ⟨rfl, rfl⟩ := H
      go_enter Tryz.func66, Tryz.ntmps66
      go_wp2_with (first | ((with_reducible refine gate_dst (N := 1) rfl ?_); refine box_event ?hg (N := 1) ?hd (cs := #[.int .i64 a0_0, .string a0_1, .int .i64 a0_2, .int .i64 a0_3, .int .i64 a0_4, .int .i64 a0_5]) (t := 61) ?hr ?_; (case hd => rfl); (case hg => rfl); (case hr => first | (go_simp; done) | (go_simp; rfl)); intro gb148 hg w8 hbox hb; have n0_ := Aside0.mk (below_step (by repeat (first | (with_reducible first | exact HB.out | apply below_alloc | apply pw_below_drewN | apply below_drew1) | exact HB.out)) hb); have n1_ := Aside0.mk (hbox); have n2_ := Aside0.mk ((by rw [hg]; exact (below_size (by repeat (first | (with_reducible first | exact HB.out | apply below_alloc | apply pw_below_drewN | apply below_drew1) | exact HB.out))) : w.heap.size ≤ gb148)); have n3_ := Aside0.mk ((by rw [hg]; exact (below_size (by repeat (first | (with_reducible first | exact HB.out | apply below_alloc | apply pw_below_drewN | apply below_drew1) | exact HB.out))) : w.heap.size ≤ gb148)); clear HB; have HB := n0_; have BK148 := n1_; have GW148 := n2_; have GE148 := n3_; clear n0_ n1_ n2_ n3_; clear hb hbox hg; have hcz9_0 : w8.cell? ⟨gb148, 0, none⟩ = some (.int .i64 a0_0) := (blk_cell BK148.out 0).trans rfl; have hcz9_1 : w8.cell? ⟨gb148, 1, none⟩ = some (.string a0_1) := (blk_cell BK148.out 1).trans rfl; have hcz9_2 : w8.cell? ⟨gb148, 2, none⟩ = some (.int .i64 a0_2) := (blk_cell BK148.out 2).trans rfl; have hcz9_3 : w8.cell? ⟨gb148, 3, none⟩ = some (.int .i64 a0_3) := (blk_cell BK148.out 3).trans rfl; have hcz9_4 : w8.cell? ⟨gb148, 4, none⟩ = some (.int .i64 a0_4) := (blk_cell BK148.out 4).trans rfl; have hcz9_5 : w8.cell? ⟨gb148, 5, none⟩ = some (.int .i64 a0_5) := (blk_cell BK148.out 5).trans rfl; have hfz9_0 := blk_frozen BK148.out 0; have hfz9_1 := blk_frozen BK148.out 1; have hfz9_2 := blk_frozen BK148.out 2; have hfz9_3 := blk_frozen BK148.out 3; have hfz9_4 := blk_frozen BK148.out 4; have hfz9_5 := blk_frozen BK148.out 5))
      go_ret2
      exact ⟨by first | rfl | (simp [errW_none, errW_some] <;> rfl) | (simp [*, errW_none, errW_some] <;> rfl) | (simp [*, q_isEmpty]; done) | (simp [*]; exact q_gt _ _ (by assumption)), by repeat (first | (with_reducible first | exact HB.out | apply below_alloc | apply pw_below_drewN | apply below_drew1 | refine below_set ?_ GE148.out) | exact HB.out)⟩
    · rw [if_neg c7] at H
      have c7b0 : (a0_0 == 9) = false := beq_eq_false_iff_ne.mpr c7
      have c7b1 : (a0_0 != 9) = true := bne_iff_ne.mpr c7
      simp only [Option.some.injEq, Prod.mk.injEq] at H
      obtain ⟨rfl, rfl⟩ := H
      go_enter Tryz.func66, Tryz.ntmps66
      go_wp2_with (first | ((with_reducible refine gate_dst (N := 1) rfl ?_); refine box_event ?hg (N := 1) ?hd (cs := #[.int .i64 a0_0, .string a0_1, .int .i64 a0_2, .int .i64 a0_3, .int .i64 a0_4, .int .i64 a0_5]) (t := 61) ?hr ?_; (case hd => rfl); (case hg => rfl); (case hr => first | (go_simp; done) | (go_simp; rfl)); intro gb148 hg w10 hbox hb; have n0_ := Aside0.mk (below_step (by repeat (first | (with_reducible first | exact HB.out | apply below_alloc | apply pw_below_drewN | apply below_drew1) | exact HB.out)) hb); have n1_ := Aside0.mk (hbox); have n2_ := Aside0.mk ((by rw [hg]; exact (below_size (by repeat (first | (with_reducible first | exact HB.out | apply below_alloc | apply pw_below_drewN | apply below_drew1) | exact HB.out))) : w.heap.size ≤ gb148)); have n3_ := Aside0.mk ((by rw [hg]; exact (below_size (by repeat (first | (with_reducible first | exact HB.out | apply below_alloc | apply pw_below_drewN | apply below_drew1) | exact HB.out))) : w.heap.size ≤ gb148)); clear HB; have HB := n0_; have BK148 := n1_; have GW148 := n2_; have GE148 := n3_; clear n0_ n1_ n2_ n3_; clear hb hbox hg; have hcz11_0 : w10.cell? ⟨gb148, 0, none⟩ = some (.int .i64 a0_0) := (blk_cell BK148.out 0).trans rfl; have hcz11_1 : w10.cell? ⟨gb148, 1, none⟩ = some (.string a0_1) := (blk_cell BK148.out 1).trans rfl; have hcz11_2 : w10.cell? ⟨gb148, 2, none⟩ = some (.int .i64 a0_2) := (blk_cell BK148.out 2).trans rfl; have hcz11_3 : w10.cell? ⟨gb148, 3, none⟩ = some (.int .i64 a0_3) := (blk_cell BK148.out 3).trans rfl; have hcz11_4 : w10.cell? ⟨gb148, 4, none⟩ = some (.int .i64 a0_4) := (blk_cell BK148.out 4).trans rfl; have hcz11_5 : w10.cell? ⟨gb148, 5, none⟩ = some (.int .i64 a0_5) := (blk_cell BK148.out 5).trans rfl; have hfz11_0 := blk_frozen BK148.out 0; have hfz11_1 := blk_frozen BK148.out 1; have hfz11_2 := blk_frozen BK148.out 2; have hfz11_3 := blk_frozen BK148.out 3; have hfz11_4 := blk_frozen BK148.out 4; have hfz11_5 := blk_frozen BK148.out 5))
      go_ret2
      exact ⟨by first | rfl | (simp [errW_none, errW_some] <;> rfl) | (simp [*, errW_none, errW_some] <;> rfl) | (simp [*, q_isEmpty]; done) | (simp [*]; exact q_gt _ _ (by assumption)), by repeat (first | (with_reducible first | exact HB.out | apply below_alloc | apply pw_below_drewN | apply below_drew1 | refine below_set ?_ GE148.out) | exact HB.out)⟩

end Go.Proofs.YtnnhehlieakedaaGreatDoor.Q
namespace Go.Proofs.YtnnhehlieakedaaGreatDoor.Q
open Go.RowKit Go.Proofs.YtnnhehlieakedaaGreatDoorW.PrintWords Go.Proofs.YtnnhehlieakedaaGreatDoorW.PrintLast Go.Proofs.YtnnhehlieakedaaGreatDoorW.PrintMore
attribute [local go_sem] max2_int min2_int max_two min_two max_three min_three max_four min_four   -- for this text's walks alone
set_option linter.unusedVariables false
set_option linter.unusedSimpArgs false

/-! ### spec_three: function 43 -/
mutual
def spec_three.j0 : Nat → List (S61) → Bool → Option (Int × ByteArray × ByteArray × Int)
  | 0, _, _ => none
  | k + 1, x0, x24 => if x24 = true then (some (0, (⟨#[]⟩ : ByteArray), (⟨#[]⟩ : ByteArray), 0)) else (if 0 < (x0.length : Int) then ((spec_word.f k ((rd_T61 x0 0).f0) ((rd_T61 x0 0).f1) ((rd_T61 x0 0).f2) ((rd_T61 x0 0).f3) ((rd_T61 x0 0).f4) ((rd_T61 x0 0).f5)).bind fun bt155 => (if 2 < (x0.length : Int) then ((spec_word.f k ((rd_T61 x0 2).f0) ((rd_T61 x0 2).f1) ((rd_T61 x0 2).f2) ((rd_T61 x0 2).f3) ((rd_T61 x0 2).f4) ((rd_T61 x0 2).f5)).bind fun bt158 => (if bt155.2 = 0 then (spec_three.j1 k x0 bt155.1 bt155.2 bt158.1 bt158.2 true) else (spec_three.j1 k x0 bt155.1 bt155.2 bt158.1 bt158.2 (bt158.2 == 0)))) else (none))) else (none))
def spec_three.j1 : Nat → List (S61) → ByteArray → Int → ByteArray → Int → Bool → Option (Int × ByteArray × ByteArray × Int)
  | 0, _, _, _, _, _, _ => none
  | k + 1, x0, x4, x5, x6, x7, x45 => if x45 = true then (some (0, (⟨#[]⟩ : ByteArray), (⟨#[]⟩ : ByteArray), 0)) else (if x5 = 2 then (some (0, (⟨#[]⟩ : ByteArray), (⟨#[]⟩ : ByteArray), 2)) else (if x7 = 2 then (some (0, (⟨#[]⟩ : ByteArray), (⟨#[]⟩ : ByteArray), 2)) else (if x4.toList = ([] : List UInt8) then (some (0, (⟨#[]⟩ : ByteArray), (⟨#[]⟩ : ByteArray), 2)) else (if 1 < (x0.length : Int) then (some (wrap64 (((rd_T61 x0 1).f0) - 4), x4, x6, 1)) else (none)))))
end
def spec_three.f (k : Nat) (l0 : List (S61)) : Option (Int × ByteArray × ByteArray × Int) := if (l0.length : Int) < 3 then (spec_three.j0 k l0 true) else (if 1 < (l0.length : Int) then (if ((rd_T61 l0 1).f0) < 4 then (spec_three.j0 k l0 true) else (spec_three.j0 k l0 (decide (((rd_T61 l0 1).f0) > 7)))) else (none))
theorem spec_three.mono_l : ∀ k, (∀ y0 y1, LeO (spec_three.j0 k y0 y1) (spec_three.j0 (k + 1) y0 y1)) ∧ (∀ y0 y1 y2 y3 y4 y5, LeO (spec_three.j1 k y0 y1 y2 y3 y4 y5) (spec_three.j1 (k + 1) y0 y1 y2 y3 y4 y5))
  | 0 => ⟨fun _ _ r h => by simp [spec_three.j0] at h, fun _ _ _ _ _ _ r h => by simp [spec_three.j1] at h⟩
  | k + 1 => by
    obtain ⟨ih0, ih1⟩ := spec_three.mono_l k
    refine ⟨?_, ?_⟩
    · intro y0 y1
      unfold spec_three.j0
      repeat' first
      | (with_reducible exact ih0 _ _)
      | (with_reducible exact ih1 _ _ _ _ _ _)
      | (with_reducible exact spec_word.mono _ _ _ _ _ _ _)
      | (with_reducible exact LeO.refl _)
      | (with_reducible exact LeO.none _)
      | (with_reducible refine LeO.ite ?_ ?_)
      | (with_reducible refine LeO.bind ?_ (fun _ => ?_))
      | exact ih0 _ _
      | exact ih1 _ _ _ _ _ _
      | exact spec_word.mono _ _ _ _ _ _ _
      | exact LeO.none _
      | refine LeO.ite ?_ ?_
      | refine LeO.bind ?_ (fun _ => ?_)
    · intro y0 y1 y2 y3 y4 y5
      unfold spec_three.j1
      repeat' first
      | (with_reducible exact ih0 _ _)
      | (with_reducible exact ih1 _ _ _ _ _ _)
      | (with_reducible exact spec_word.mono _ _ _ _ _ _ _)
      | (with_reducible exact LeO.refl _)
      | (with_reducible exact LeO.none _)
      | (with_reducible refine LeO.ite ?_ ?_)
      | (with_reducible refine LeO.bind ?_ (fun _ => ?_))
      | exact ih0 _ _
      | exact ih1 _ _ _ _ _ _
      | exact spec_word.mono _ _ _ _ _ _ _
      | exact LeO.none _
      | refine LeO.ite ?_ ?_
      | refine LeO.bind ?_ (fun _ => ?_)
theorem spec_three.mono : ∀ a0 k, LeO (spec_three.f k a0) (spec_three.f (k + 1) a0) := by
  intro a0 k
  obtain ⟨ih0, ih1⟩ := spec_three.mono_l k
  unfold spec_three.f
  repeat' first
      | (with_reducible exact ih0 _ _)
      | (with_reducible exact ih1 _ _ _ _ _ _)
      | (with_reducible exact spec_word.mono _ _ _ _ _ _ _)
      | (with_reducible exact LeO.refl _)
      | (with_reducible exact LeO.none _)
      | (with_reducible refine LeO.ite ?_ ?_)
      | (with_reducible refine LeO.bind ?_ (fun _ => ?_))
      | exact ih0 _ _
      | exact ih1 _ _ _ _ _ _
      | exact spec_word.mono _ _ _ _ _ _ _
      | exact LeO.none _
      | refine LeO.ite ?_ ?_
      | refine LeO.bind ?_ (fun _ => ?_)
set_option maxHeartbeats 8000000 in
set_option maxRecDepth 100000 in
theorem spec_three.calls (k : Nat) (A0 : Option Addr) (c0 : Nat) (l0 : List (S61)) (r1 : Int) (r2 : ByteArray) (r3 : ByteArray) (r4 : Int) (w : World) (hr0 : Kd.C k61 w A0 l0.length l0) (hc0 : l0.length ≤ c0) (h : spec_three.f k l0 = some (r1, r2, r3, r4)) :
    Calls Tryz.prog 43 #[.slice A0 l0.length c0] w fun e w' => e = .returned (.tuple #[.agg #[.int .i64 r1, .string r2, .string r3], .int .i64 r4]) ∧ Below w.heap.size w w' := by
  have hu28 := Tryz.underlying28
  have hu61 := Tryz.underlying61
  have HR0 := Aside0.mk hr0
  have HC0 := Aside0.mk hc0
  clear hr0 hc0
  have HB := Aside0.mk (Below.refl w.heap.size w)
  have H : (if (l0.length : Int) < 3 then (spec_three.j0 k l0 true) else (if 1 < (l0.length : Int) then (if ((rd_T61 l0 1).f0) < 4 then (spec_three.j0 k l0 true) else (spec_three.j0 k l0 (decide (((rd_T61 l0 1).f0) > 7)))) else (none))) = some (r1, r2, r3, r4) := h
  clear h
  have HC2 := Aside0.mk H
  clear H
  go_enter Tryz.func43, Tryz.ntmps43
  go_upto_region 1 with (first | ((with_reducible refine gate_dst (N := 2) rfl ?_); refine box_event ?hg (N := 2) ?hd (cs := #[.int .i64 0, .string (⟨#[]⟩ : ByteArray), .string (⟨#[]⟩ : ByteArray)]) (t := 28) ?hr ?_; (case hd => rfl); (case hg => rfl); (case hr => first | (go_simp; done) | (go_simp; rfl)); intro gb151 hg w3 hbox hb; have n0_ := Aside0.mk (below_step (by repeat (first | (with_reducible first | exact HB.out | apply below_alloc | apply pw_below_drewN | apply below_drew1) | exact HB.out)) hb); have n1_ := Aside0.mk (hbox); have n2_ := Aside0.mk ((by rw [hg]; exact (below_size (by repeat (first | (with_reducible first | exact HB.out | apply below_alloc | apply pw_below_drewN | apply below_drew1) | exact HB.out))) : w.heap.size ≤ gb151)); have n3_ := Aside0.mk ((by rw [hg]; exact (below_size (by repeat (first | (with_reducible first | exact HB.out | apply below_alloc | apply pw_below_drewN | apply below_drew1) | exact HB.out))) : w.heap.size ≤ gb151)); clear HB; have HB := n0_; have BK151 := n1_; have GW151 := n2_; have GE151 := n3_; clear n0_ n1_ n2_ n3_; clear hb hbox hg))
  (try simp only [Act.put, List.setIfInBounds_toArray, List.set_cons_zero, List.set_cons_succ])
  go_cut [24] (fun v24 wc => ∃ (kq : Nat) (x24_1 : Bool), v24 = .bool x24_1 ∧ Aside0 (spec_three.j0 kq l0 x24_1 = some (r1, r2, r3, r4)) ∧ Aside0 (kq ≤ k) ∧ Aside0 (wc.heap[gb151]? = some (.cells #[.int .i64 0, .string (⟨#[]⟩ : ByteArray), .string (⟨#[]⟩ : ByteArray)] 28 (0, 0))) ∧ Aside0 (Below w.heap.size w wc))
  case first =>
    have H := HC2.out
    clear HC2
    by_cases c4 : (l0.length : Int) < 3
    · rw [if_pos c4] at H
      have c4b0 : decide ((l0.length : Int) < 3) = true := decide_eq_true c4
      have c4b1 : decide (l0.length < 3) = true := decide_eq_true (by omega)
      clear c4
      (first | rw [c4b0] | (simp only [i64_w, i32_w]; rw [c4b0]) | skip)
      have H' := Aside0.mk H
      clear H
      go_wp2
      go_meet
      case rel => exact ⟨_, (true), (by first | rfl | (simp; done) | (simp [*]; done) | (simp [*, q_isEmpty]; done) | (simp [*]; exact q_gt _ _ (by assumption))), H', ⟨by first | omega | exact Nat.le_refl _⟩, ⟨by (with_reducible repeat (first | refine blk_drewN ?_ _ | refine blk_drew ?_ | refine blk_alloc ?_ _)); exact BK151.out⟩, ⟨by repeat (first | (with_reducible first | exact HB.out | apply below_alloc | apply pw_below_drewN | apply below_drew1 | refine below_set ?_ GE151.out) | exact HB.out)⟩⟩
    · rw [if_neg c4] at H
      have c4b0 : decide ((l0.length : Int) < 3) = false := decide_eq_false c4
      have c4b1 : decide (l0.length < 3) = false := decide_eq_false (by omega)
      clear c4
      (first | rw [c4b0] | (simp only [i64_w, i32_w]; rw [c4b0]) | skip)
      by_cases c5 : 1 < (l0.length : Int)
      · rw [if_pos c5] at H
        have c5b0 : decide (1 < (l0.length : Int)) = true := decide_eq_true c5
        have c5b1 : decide (1 < l0.length) = true := decide_eq_true (by omega)
        clear c5
        by_cases c6 : ((rd_T61 l0 1).f0) < 4
        · rw [if_pos c6] at H
          have c6b0 : decide (((rd_T61 l0 1).f0) < 4) = true := decide_eq_true c6
          clear c6
          have H' := Aside0.mk H
          clear H
          have p152 : 0 ≤ (1 : Int) := (by omega)
          have q152 : 1 < (l0.length : Int) := of_decide_eq_true (by first | (with_reducible assumption) | assumption)
          obtain ⟨ad152, e152, hx152_0, hx152_1, hx152_2, hx152_3, hx152_4, hx152_5⟩ := at_T61 HR0.out 1 p152 q152
          cases e152
          (try simp only [show (1 : Int).toNat = 1 from rfl, Nat.reduceMul, Nat.reduceEqDiff, Go.Addr.add, ↓reduceIte] at hx152_0)
          (try simp only [show (1 : Int).toNat = 1 from rfl, Nat.reduceMul, Nat.reduceEqDiff, Go.Addr.add, ↓reduceIte] at hx152_1)
          (try simp only [show (1 : Int).toNat = 1 from rfl, Nat.reduceMul, Nat.reduceEqDiff, Go.Addr.add, ↓reduceIte] at hx152_2)
          (try simp only [show (1 : Int).toNat = 1 from rfl, Nat.reduceMul, Nat.reduceEqDiff, Go.Addr.add, ↓reduceIte] at hx152_3)
          (try simp only [show (1 : Int).toNat = 1 from rfl, Nat.reduceMul, Nat.reduceEqDiff, Go.Addr.add, ↓reduceIte] at hx152_4)
          (try simp only [show (1 : Int).toNat = 1 from rfl, Nat.reduceMul, Nat.reduceEqDiff, Go.Addr.add, ↓reduceIte] at hx152_5)
          have qi152 : (1 < l0.length) = True := eq_true (by omega)
          (try rw [show ((1 : Int)).toNat = 1 from rfl] at hx152_0)
          (try rw [show 1 * 6 = 6 from rfl] at hx152_0)
          (try rw [show ((1 : Int)).toNat = 1 from rfl] at hx152_1)
          (try rw [show 1 * 6 = 6 from rfl] at hx152_1)
          (try rw [show ((1 : Int)).toNat = 1 from rfl] at hx152_2)
          (try rw [show 1 * 6 = 6 from rfl] at hx152_2)
          (try rw [show ((1 : Int)).toNat = 1 from rfl] at hx152_3)
          (try rw [show 1 * 6 = 6 from rfl] at hx152_3)
          (try rw [show ((1 : Int)).toNat = 1 from rfl] at hx152_4)
          (try rw [show 1 * 6 = 6 from rfl] at hx152_4)
          (try rw [show ((1 : Int)).toNat = 1 from rfl] at hx152_5)
          (try rw [show 1 * 6 = 6 from rfl] at hx152_5)
          replace hx152_0 := (HB.out.cell (World.block_lt_of_cell? w _ hx152_0)).trans hx152_0
          replace hx152_1 := (HB.out.cell (World.block_lt_of_cell? w _ hx152_1)).trans hx152_1
          replace hx152_2 := (HB.out.cell (World.block_lt_of_cell? w _ hx152_2)).trans hx152_2
          replace hx152_3 := (HB.out.cell (World.block_lt_of_cell? w _ hx152_3)).trans hx152_3
          replace hx152_4 := (HB.out.cell (World.block_lt_of_cell? w _ hx152_4)).trans hx152_4
          replace hx152_5 := (HB.out.cell (World.block_lt_of_cell? w _ hx152_5)).trans hx152_5
          replace p152 := eq_true p152
          replace q152 := eq_true q152
          go_wp2
          go_meet
          case rel => exact ⟨_, (true), (by first | rfl | (simp; done) | (simp [*]; done) | (simp [*, q_isEmpty]; done) | (simp [*]; exact q_gt _ _ (by assumption))), H', ⟨by first | omega | exact Nat.le_refl _⟩, ⟨by (with_reducible repeat (first | refine blk_drewN ?_ _ | refine blk_drew ?_ | refine blk_alloc ?_ _)); exact BK151.out⟩, ⟨by repeat (first | (with_reducible first | exact HB.out | apply below_alloc | apply pw_below_drewN | apply below_drew1 | refine below_set ?_ GE151.out) | exact HB.out)⟩⟩
        · rw [if_neg c6] at H
          have c6b0 : decide (((rd_T61 l0 1).f0) < 4) = false := decide_eq_false c6
          clear c6
          have H' := Aside0.mk H
          clear H
          have p152 : 0 ≤ (1 : Int) := (by omega)
          have q152 : 1 < (l0.length : Int) := of_decide_eq_true (by first | (with_reducible assumption) | assumption)
          obtain ⟨ad152, e152, hx152_0, hx152_1, hx152_2, hx152_3, hx152_4, hx152_5⟩ := at_T61 HR0.out 1 p152 q152
          cases e152
          (try simp only [show (1 : Int).toNat = 1 from rfl, Nat.reduceMul, Nat.reduceEqDiff, Go.Addr.add, ↓reduceIte] at hx152_0)
          (try simp only [show (1 : Int).toNat = 1 from rfl, Nat.reduceMul, Nat.reduceEqDiff, Go.Addr.add, ↓reduceIte] at hx152_1)
          (try simp only [show (1 : Int).toNat = 1 from rfl, Nat.reduceMul, Nat.reduceEqDiff, Go.Addr.add, ↓reduceIte] at hx152_2)
          (try simp only [show (1 : Int).toNat = 1 from rfl, Nat.reduceMul, Nat.reduceEqDiff, Go.Addr.add, ↓reduceIte] at hx152_3)
          (try simp only [show (1 : Int).toNat = 1 from rfl, Nat.reduceMul, Nat.reduceEqDiff, Go.Addr.add, ↓reduceIte] at hx152_4)
          (try simp only [show (1 : Int).toNat = 1 from rfl, Nat.reduceMul, Nat.reduceEqDiff, Go.Addr.add, ↓reduceIte] at hx152_5)
          have qi152 : (1 < l0.length) = True := eq_true (by omega)
          (try rw [show ((1 : Int)).toNat = 1 from rfl] at hx152_0)
          (try rw [show 1 * 6 = 6 from rfl] at hx152_0)
          (try rw [show ((1 : Int)).toNat = 1 from rfl] at hx152_1)
          (try rw [show 1 * 6 = 6 from rfl] at hx152_1)
          (try rw [show ((1 : Int)).toNat = 1 from rfl] at hx152_2)
          (try rw [show 1 * 6 = 6 from rfl] at hx152_2)
          (try rw [show ((1 : Int)).toNat = 1 from rfl] at hx152_3)
          (try rw [show 1 * 6 = 6 from rfl] at hx152_3)
          (try rw [show ((1 : Int)).toNat = 1 from rfl] at hx152_4)
          (try rw [show 1 * 6 = 6 from rfl] at hx152_4)
          (try rw [show ((1 : Int)).toNat = 1 from rfl] at hx152_5)
          (try rw [show 1 * 6 = 6 from rfl] at hx152_5)
          replace hx152_0 := (HB.out.cell (World.block_lt_of_cell? w _ hx152_0)).trans hx152_0
          replace hx152_1 := (HB.out.cell (World.block_lt_of_cell? w _ hx152_1)).trans hx152_1
          replace hx152_2 := (HB.out.cell (World.block_lt_of_cell? w _ hx152_2)).trans hx152_2
          replace hx152_3 := (HB.out.cell (World.block_lt_of_cell? w _ hx152_3)).trans hx152_3
          replace hx152_4 := (HB.out.cell (World.block_lt_of_cell? w _ hx152_4)).trans hx152_4
          replace hx152_5 := (HB.out.cell (World.block_lt_of_cell? w _ hx152_5)).trans hx152_5
          replace p152 := eq_true p152
          replace q152 := eq_true q152
          have p153 : 0 ≤ (1 : Int) := (by omega)
          have q153 : 1 < (l0.length : Int) := of_decide_eq_true (by first | (with_reducible assumption) | assumption)
          obtain ⟨ad153, e153, hx153_0, hx153_1, hx153_2, hx153_3, hx153_4, hx153_5⟩ := at_T61 HR0.out 1 p153 q153
          obtain rfl : ad152 = ad153 := (by injection e153)
          (try simp only [show (1 : Int).toNat = 1 from rfl, Nat.reduceMul, Nat.reduceEqDiff, Go.Addr.add, ↓reduceIte] at hx153_0)
          (try simp only [show (1 : Int).toNat = 1 from rfl, Nat.reduceMul, Nat.reduceEqDiff, Go.Addr.add, ↓reduceIte] at hx153_1)
          (try simp only [show (1 : Int).toNat = 1 from rfl, Nat.reduceMul, Nat.reduceEqDiff, Go.Addr.add, ↓reduceIte] at hx153_2)
          (try simp only [show (1 : Int).toNat = 1 from rfl, Nat.reduceMul, Nat.reduceEqDiff, Go.Addr.add, ↓reduceIte] at hx153_3)
          (try simp only [show (1 : Int).toNat = 1 from rfl, Nat.reduceMul, Nat.reduceEqDiff, Go.Addr.add, ↓reduceIte] at hx153_4)
          (try simp only [show (1 : Int).toNat = 1 from rfl, Nat.reduceMul, Nat.reduceEqDiff, Go.Addr.add, ↓reduceIte] at hx153_5)
          have qi153 : (1 < l0.length) = True := eq_true (by omega)
          (try rw [show ((1 : Int)).toNat = 1 from rfl] at hx153_0)
          (try rw [show 1 * 6 = 6 from rfl] at hx153_0)
          (try rw [show ((1 : Int)).toNat = 1 from rfl] at hx153_1)
          (try rw [show 1 * 6 = 6 from rfl] at hx153_1)
          (try rw [show ((1 : Int)).toNat = 1 from rfl] at hx153_2)
          (try rw [show 1 * 6 = 6 from rfl] at hx153_2)
          (try rw [show ((1 : Int)).toNat = 1 from rfl] at hx153_3)
          (try rw [show 1 * 6 = 6 from rfl] at hx153_3)
          (try rw [show ((1 : Int)).toNat = 1 from rfl] at hx153_4)
          (try rw [show 1 * 6 = 6 from rfl] at hx153_4)
          (try rw [show ((1 : Int)).toNat = 1 from rfl] at hx153_5)
          (try rw [show 1 * 6 = 6 from rfl] at hx153_5)
          replace hx153_0 := (HB.out.cell (World.block_lt_of_cell? w _ hx153_0)).trans hx153_0
          replace hx153_1 := (HB.out.cell (World.block_lt_of_cell? w _ hx153_1)).trans hx153_1
          replace hx153_2 := (HB.out.cell (World.block_lt_of_cell? w _ hx153_2)).trans hx153_2
          replace hx153_3 := (HB.out.cell (World.block_lt_of_cell? w _ hx153_3)).trans hx153_3
          replace hx153_4 := (HB.out.cell (World.block_lt_of_cell? w _ hx153_4)).trans hx153_4
          replace hx153_5 := (HB.out.cell (World.block_lt_of_cell? w _ hx153_5)).trans hx153_5
          replace p153 := eq_true p153
          replace q153 := eq_true q153
          go_wp2
          go_meet
          case rel => exact ⟨_, (decide (((rd_T61 l0 1).f0) > 7)), (by first | rfl | (simp; done) | (simp [*]; done) | (simp [*, q_isEmpty]; done) | (simp [*]; exact q_gt _ _ (by assumption))), H', ⟨by first | omega | exact Nat.le_refl _⟩, ⟨by (with_reducible repeat (first | refine blk_drewN ?_ _ | refine blk_drew ?_ | refine blk_alloc ?_ _)); exact BK151.out⟩, ⟨by repeat (first | (with_reducible first | exact HB.out | apply below_alloc | apply pw_below_drewN | apply below_drew1 | refine below_set ?_ GE151.out) | exact HB.out)⟩⟩
      · rw [if_neg c5] at H
        exact absurd H (by simp)
  case rest =>
    clear HC2
    try clear p1
    try clear q1
    try clear hx1
    try clear qi1
    try clear p2
    try clear c4
    try clear c4b0
    try clear c4b1
    try clear c5
    try clear c5b0
    try clear c5b1
    try clear c6
    try clear c6b0
    try clear hx152_0
    try clear hx152_1
    try clear hx152_2
    try clear hx152_3
    try clear hx152_4
    try clear hx152_5
    try clear hx153_0
    try clear hx153_1
    try clear hx153_2
    try clear hx153_3
    try clear hx153_4
    try clear hx153_5
    try clear p152
    try clear p153
    try clear q152
    try clear q153
    obtain ⟨kq, x24_1, rfl, HA, HJ1, BK151, HB⟩ := hcut
    cases kq with
    | zero => exact absurd HA.out (by simp [spec_three.j0])
    | succ kj1 =>
      have H := HA.out
      clear HA
      simp only [spec_three.j0] at H
      by_cases c7 : x24_1 = true
      · subst c7
        have H1 : (some (0, (⟨#[]⟩ : ByteArray), (⟨#[]⟩ : ByteArray), 0)) = some (r1, r2, r3, r4) := by rw [if_pos rfl] at H; exact H
        clear H
        have H := H1
        clear H1
        simp only [Option.some.injEq, Prod.mk.injEq] at H
        obtain ⟨rfl, rfl, rfl, rfl⟩ := H
        have hcz8_0 : wc.cell? ⟨gb151, 0, none⟩ = some (.int .i64 0) := (blk_cell BK151.out 0).trans rfl
        have hcz8_1 : wc.cell? ⟨gb151, 1, none⟩ = some (.string (⟨#[]⟩ : ByteArray)) := (blk_cell BK151.out 1).trans rfl
        have hcz8_2 : wc.cell? ⟨gb151, 2, none⟩ = some (.string (⟨#[]⟩ : ByteArray)) := (blk_cell BK151.out 2).trans rfl
        have hfz8_0 := blk_frozen BK151.out 0
        have hfz8_1 := blk_frozen BK151.out 1
        have hfz8_2 := blk_frozen BK151.out 2
        go_wp2
        refine bodyPost_ret (results_ct rfl _ _ gb151 28 #[.int .i64 0, .string (⟨#[]⟩ : ByteArray), .string (⟨#[]⟩ : ByteArray)] (0, 0) _ rfl (by (with_reducible repeat (first | refine blk_drewN ?_ _ | refine blk_drew ?_ | refine blk_alloc ?_ _)); refine blk_put (cs := #[.int .i64 0, .string (⟨#[]⟩ : ByteArray), .string (⟨#[]⟩ : ByteArray)]) ?_ 2 _ rfl; (with_reducible repeat (first | refine blk_drewN ?_ _ | refine blk_drew ?_ | refine blk_alloc ?_ _)); refine blk_put (cs := #[.int .i64 0, .string (⟨#[]⟩ : ByteArray), .string (⟨#[]⟩ : ByteArray)]) ?_ 1 _ rfl; (with_reducible repeat (first | refine blk_drewN ?_ _ | refine blk_drew ?_ | refine blk_alloc ?_ _)); refine blk_put (cs := #[.int .i64 0, .string (⟨#[]⟩ : ByteArray), .string (⟨#[]⟩ : ByteArray)]) ?_ 0 _ rfl; (with_reducible repeat (first | refine blk_drewN ?_ _ | refine blk_drew ?_ | refine blk_alloc ?_ _)); exact BK151.out) Tryz.underlying28 rfl (by kernel_rfl)) rfl ?_
        exact ⟨by first | rfl | (simp [errW_none, errW_some] <;> rfl) | (simp [*, errW_none, errW_some] <;> rfl) | (simp [*, q_isEmpty]; done) | (simp [*]; exact q_gt _ _ (by assumption)), by repeat (first | (with_reducible first | exact HB.out | apply below_alloc | apply pw_below_drewN | apply below_drew1 | refine below_set ?_ GE151.out) | exact HB.out)⟩
      · replace c7 := Bool.eq_false_iff.mpr c7
        subst c7
        have H1 : (if 0 < (l0.length : Int) then ((spec_word.f kj1 ((rd_T61 l0 0).f0) ((rd_T61 l0 0).f1) ((rd_T61 l0 0).f2) ((rd_T61 l0 0).f3) ((rd_T61 l0 0).f4) ((rd_T61 l0 0).f5)).bind fun bt155 => (if 2 < (l0.length : Int) then ((spec_word.f kj1 ((rd_T61 l0 2).f0) ((rd_T61 l0 2).f1) ((rd_T61 l0 2).f2) ((rd_T61 l0 2).f3) ((rd_T61 l0 2).f4) ((rd_T61 l0 2).f5)).bind fun bt158 => (if bt155.2 = 0 then (spec_three.j1 kj1 l0 bt155.1 bt155.2 bt158.1 bt158.2 true) else (spec_three.j1 kj1 l0 bt155.1 bt155.2 bt158.1 bt158.2 (bt158.2 == 0)))) else (none))) else (none)) = some (r1, r2, r3, r4) := by rw [if_neg (show ¬ (false = true) by decide)] at H; exact H
        clear H
        have H := H1
        clear H1
        by_cases c9 : 0 < (l0.length : Int)
        · rw [if_pos c9] at H
          have c9b0 : decide (0 < (l0.length : Int)) = true := decide_eq_true c9
          have c9b1 : decide (0 < l0.length) = true := decide_eq_true (by omega)
          clear c9
          replace H := Option.bind_eq_some_iff.mp H
          obtain ⟨⟨t155, t156⟩, A100, H⟩ := H
          replace H : (if 2 < (l0.length : Int) then ((spec_word.f kj1 ((rd_T61 l0 2).f0) ((rd_T61 l0 2).f1) ((rd_T61 l0 2).f2) ((rd_T61 l0 2).f3) ((rd_T61 l0 2).f4) ((rd_T61 l0 2).f5)).bind fun bt158 => (if t156 = 0 then (spec_three.j1 kj1 l0 t155 t156 bt158.1 bt158.2 true) else (spec_three.j1 kj1 l0 t155 t156 bt158.1 bt158.2 (bt158.2 == 0)))) else (none)) = some (r1, r2, r3, r4) := H
          have A10 := Aside0.mk A100
          clear A100
          by_cases c11 : 2 < (l0.length : Int)
          · rw [if_pos c11] at H
            have c11b0 : decide (2 < (l0.length : Int)) = true := decide_eq_true c11
            have c11b1 : decide (2 < l0.length) = true := decide_eq_true (by omega)
            clear c11
            replace H := Option.bind_eq_some_iff.mp H
            obtain ⟨⟨t158, t159⟩, A120, H⟩ := H
            replace H : (if t156 = 0 then (spec_three.j1 kj1 l0 t155 t156 t158 t159 true) else (spec_three.j1 kj1 l0 t155 t156 t158 t159 (t159 == 0))) = some (r1, r2, r3, r4) := H
            have A12 := Aside0.mk A120
            clear A120
            have HC13 := Aside0.mk H
            clear H
            have p154 : 0 ≤ (0 : Int) := (by omega)
            have q154 : 0 < (l0.length : Int) := of_decide_eq_true (by first | (with_reducible assumption) | assumption)
            obtain ⟨ad154, e154, hx154_0, hx154_1, hx154_2, hx154_3, hx154_4, hx154_5⟩ := at_T61 HR0.out 0 p154 q154
            cases e154
            have qi154 : (0 < l0.length) = True := eq_true (by omega)
            (try rw [show ((0 : Int)).toNat = 0 from rfl] at hx154_0)
            (try rw [show 0 * 6 = 0 from rfl] at hx154_0)
            (try rw [Addr.add_zero'] at hx154_0)
            (try rw [show ((0 : Int)).toNat = 0 from rfl] at hx154_1)
            (try rw [show 0 * 6 = 0 from rfl] at hx154_1)
            (try rw [Addr.add_zero'] at hx154_1)
            (try rw [show ((0 : Int)).toNat = 0 from rfl] at hx154_2)
            (try rw [show 0 * 6 = 0 from rfl] at hx154_2)
            (try rw [Addr.add_zero'] at hx154_2)
            (try rw [show ((0 : Int)).toNat = 0 from rfl] at hx154_3)
            (try rw [show 0 * 6 = 0 from rfl] at hx154_3)
            (try rw [Addr.add_zero'] at hx154_3)
            (try rw [show ((0 : Int)).toNat = 0 from rfl] at hx154_4)
            (try rw [show 0 * 6 = 0 from rfl] at hx154_4)
            (try rw [Addr.add_zero'] at hx154_4)
            (try rw [show ((0 : Int)).toNat = 0 from rfl] at hx154_5)
            (try rw [show 0 * 6 = 0 from rfl] at hx154_5)
            (try rw [Addr.add_zero'] at hx154_5)
            replace hx154_0 := (HB.out.cell (World.block_lt_of_cell? w _ hx154_0)).trans hx154_0
            replace hx154_1 := (HB.out.cell (World.block_lt_of_cell? w _ hx154_1)).trans hx154_1
            replace hx154_2 := (HB.out.cell (World.block_lt_of_cell? w _ hx154_2)).trans hx154_2
            replace hx154_3 := (HB.out.cell (World.block_lt_of_cell? w _ hx154_3)).trans hx154_3
            replace hx154_4 := (HB.out.cell (World.block_lt_of_cell? w _ hx154_4)).trans hx154_4
            replace hx154_5 := (HB.out.cell (World.block_lt_of_cell? w _ hx154_5)).trans hx154_5
            replace p154 := eq_true p154
            replace q154 := eq_true q154
            go_upto_region 5 with (first | ((with_reducible refine gate_callee (f := 66) rfl ?_); refine goesL_ (some 30) rfl rfl Tryz.func66 (by kernel_rfl) rfl #[.agg #[.int .i64 ((rd_T61 l0 0).f0), .string ((rd_T61 l0 0).f1), .int .i64 ((rd_T61 l0 0).f2), .int .i64 ((rd_T61 l0 0).f3), .int .i64 ((rd_T61 l0 0).f4), .int .i64 ((rd_T61 l0 0).f5)]] rfl (by (try simp only [List.map_toArray, List.map_cons, List.map_nil]); first | done | rfl | (simp only [List.length_drop, List.length_take]; rfl)) ?_; (with_reducible refine (spec_word.calls kj1 ((rd_T61 l0 0).f0) ((rd_T61 l0 0).f1) ((rd_T61 l0 0).f2) ((rd_T61 l0 0).f3) ((rd_T61 l0 0).f4) ((rd_T61 l0 0).f5) t155 t156 _ A10.out).mono ?_); rintro e w14 ⟨rfl, hb⟩; refine ⟨_, rfl, ?_⟩; have n0_ := Aside0.mk (blk_below (g := gb151) (o := .cells #[.int .i64 0, .string (⟨#[]⟩ : ByteArray), .string (⟨#[]⟩ : ByteArray)] 28 (0, 0)) (by (with_reducible repeat (first | refine blk_drewN ?_ _ | refine blk_drew ?_ | refine blk_alloc ?_ _)); exact BK151.out) hb); have n1_ := Aside0.mk (below_step (by repeat (first | (with_reducible first | exact HB.out | apply below_alloc | apply pw_below_drewN | apply below_drew1 | refine below_set ?_ GE151.out) | exact HB.out)) hb); clear BK151; clear HB; have BK151 := n0_; have HB := n1_; clear n0_ n1_; (try clear hb); (try clear hb2); (try clear hk); (try clear hi); have p157 : 0 ≤ (2 : Int) := (by omega); have q157 : 2 < (l0.length : Int) := of_decide_eq_true (by first | (with_reducible assumption) | assumption); obtain ⟨ad157, e157, hx157_0, hx157_1, hx157_2, hx157_3, hx157_4, hx157_5⟩ := at_T61 HR0.out 2 p157 q157; obtain rfl : ad154 = ad157 := (by injection e157); (try simp only [show (2 : Int).toNat = 2 from rfl, Nat.reduceMul, Nat.reduceEqDiff, Go.Addr.add, ↓reduceIte] at hx157_0); (try simp only [show (2 : Int).toNat = 2 from rfl, Nat.reduceMul, Nat.reduceEqDiff, Go.Addr.add, ↓reduceIte] at hx157_1); (try simp only [show (2 : Int).toNat = 2 from rfl, Nat.reduceMul, Nat.reduceEqDiff, Go.Addr.add, ↓reduceIte] at hx157_2); (try simp only [show (2 : Int).toNat = 2 from rfl, Nat.reduceMul, Nat.reduceEqDiff, Go.Addr.add, ↓reduceIte] at hx157_3); (try simp only [show (2 : Int).toNat = 2 from rfl, Nat.reduceMul, Nat.reduceEqDiff, Go.Addr.add, ↓reduceIte] at hx157_4); (try simp only [show (2 : Int).toNat = 2 from rfl, Nat.reduceMul, Nat.reduceEqDiff, Go.Addr.add, ↓reduceIte] at hx157_5); have qi157 : (2 < l0.length) = True := eq_true (by omega); (try rw [show ((2 : Int)).toNat = 2 from rfl] at hx157_0); (try rw [show 2 * 6 = 12 from rfl] at hx157_0); (try rw [show ((2 : Int)).toNat = 2 from rfl] at hx157_1); (try rw [show 2 * 6 = 12 from rfl] at hx157_1); (try rw [show ((2 : Int)).toNat = 2 from rfl] at hx157_2); (try rw [show 2 * 6 = 12 from rfl] at hx157_2); (try rw [show ((2 : Int)).toNat = 2 from rfl] at hx157_3); (try rw [show 2 * 6 = 12 from rfl] at hx157_3); (try rw [show ((2 : Int)).toNat = 2 from rfl] at hx157_4); (try rw [show 2 * 6 = 12 from rfl] at hx157_4); (try rw [show ((2 : Int)).toNat = 2 from rfl] at hx157_5); (try rw [show 2 * 6 = 12 from rfl] at hx157_5); replace hx157_0 := (HB.out.cell (World.block_lt_of_cell? w _ hx157_0)).trans hx157_0; replace hx157_1 := (HB.out.cell (World.block_lt_of_cell? w _ hx157_1)).trans hx157_1; replace hx157_2 := (HB.out.cell (World.block_lt_of_cell? w _ hx157_2)).trans hx157_2; replace hx157_3 := (HB.out.cell (World.block_lt_of_cell? w _ hx157_3)).trans hx157_3; replace hx157_4 := (HB.out.cell (World.block_lt_of_cell? w _ hx157_4)).trans hx157_4; replace hx157_5 := (HB.out.cell (World.block_lt_of_cell? w _ hx157_5)).trans hx157_5; replace p157 := eq_true p157; replace q157 := eq_true q157) | ((with_reducible refine gate_callee (f := 66) rfl ?_); refine goesL_ (some 37) rfl rfl Tryz.func66 (by kernel_rfl) rfl #[.agg #[.int .i64 ((rd_T61 l0 2).f0), .string ((rd_T61 l0 2).f1), .int .i64 ((rd_T61 l0 2).f2), .int .i64 ((rd_T61 l0 2).f3), .int .i64 ((rd_T61 l0 2).f4), .int .i64 ((rd_T61 l0 2).f5)]] rfl (by (try simp only [List.map_toArray, List.map_cons, List.map_nil]); first | done | rfl | (simp only [List.length_drop, List.length_take]; rfl)) ?_; (with_reducible refine (spec_word.calls kj1 ((rd_T61 l0 2).f0) ((rd_T61 l0 2).f1) ((rd_T61 l0 2).f2) ((rd_T61 l0 2).f3) ((rd_T61 l0 2).f4) ((rd_T61 l0 2).f5) t158 t159 _ A12.out).mono ?_); rintro e w15 ⟨rfl, hb⟩; refine ⟨_, rfl, ?_⟩; have n0_ := Aside0.mk (blk_below (g := gb151) (o := .cells #[.int .i64 0, .string (⟨#[]⟩ : ByteArray), .string (⟨#[]⟩ : ByteArray)] 28 (0, 0)) (by (with_reducible repeat (first | refine blk_drewN ?_ _ | refine blk_drew ?_ | refine blk_alloc ?_ _)); exact BK151.out) hb); have n1_ := Aside0.mk (below_step (by repeat (first | (with_reducible first | exact HB.out | apply below_alloc | apply pw_below_drewN | apply below_drew1 | refine below_set ?_ GE151.out) | exact HB.out)) hb); clear BK151; clear HB; have BK151 := n0_; have HB := n1_; clear n0_ n1_; (try clear hb); (try clear hb2); (try clear hk); (try clear hi)))
            (try simp only [Act.put, List.setIfInBounds_toArray, List.set_cons_zero, List.set_cons_succ])
            go_cut [45] (fun v45 wc => ∃ (kq : Nat) (x45_12 : Bool), v45 = .bool x45_12 ∧ Aside0 (spec_three.j1 kq l0 t155 t156 t158 t159 x45_12 = some (r1, r2, r3, r4)) ∧ Aside0 (kq ≤ kj1) ∧ Aside0 (wc.heap[gb151]? = some (.cells #[.int .i64 0, .string (⟨#[]⟩ : ByteArray), .string (⟨#[]⟩ : ByteArray)] 28 (0, 0))) ∧ Aside0 (Below w.heap.size w wc))
            case first =>
              have H := HC13.out
              clear HC13
              by_cases c16 : t156 = 0
              · rw [if_pos c16] at H
                have c16b0 : (t156 == 0) = true := beq_iff_eq.mpr c16
                have c16b1 : (t156 != 0) = false := bne_eq_false_iff_eq.mpr c16
                clear c16
                (first | rw [c16b0] | (simp only [i64_w, i32_w]; rw [c16b0]) | skip)
                have H' := Aside0.mk H
                clear H
                go_wp2
                go_meet
                case rel => exact ⟨_, (true), (by first | rfl | (simp; done) | (simp [*]; done) | (simp [*, q_isEmpty]; done) | (simp [*]; exact q_gt _ _ (by assumption))), H', ⟨by have := HJ1.out; first | omega | exact Nat.le_refl _⟩, ⟨by (with_reducible repeat (first | refine blk_drewN ?_ _ | refine blk_drew ?_ | refine blk_alloc ?_ _)); exact BK151.out⟩, ⟨by repeat (first | (with_reducible first | exact HB.out | apply below_alloc | apply pw_below_drewN | apply below_drew1 | refine below_set ?_ GE151.out) | exact HB.out)⟩⟩
              · rw [if_neg c16] at H
                have c16b0 : (t156 == 0) = false := beq_eq_false_iff_ne.mpr c16
                have c16b1 : (t156 != 0) = true := bne_iff_ne.mpr c16
                (first | rw [c16b0] | (simp only [i64_w, i32_w]; rw [c16b0]) | skip)
                have H' := Aside0.mk H
                clear H
                go_wp2
                go_meet
                case rel => exact ⟨_, ((t159 == 0)), (by first | rfl | (simp; done) | (simp [*]; done) | (simp [*, q_isEmpty]; done) | (simp [*]; exact q_gt _ _ (by assumption))), H', ⟨by have := HJ1.out; first | omega | exact Nat.le_refl _⟩, ⟨by (with_reducible repeat (first | refine blk_drewN ?_ _ | refine blk_drew ?_ | refine blk_alloc ?_ _)); exact BK151.out⟩, ⟨by repeat (first | (with_reducible first | exact HB.out | apply below_alloc | apply pw_below_drewN | apply below_drew1 | refine below_set ?_ GE151.out) | exact HB.out)⟩⟩
            case rest =>
              clear HC13
              try clear c1
              try clear p1
              try clear q1
              try clear hx1
              try clear qi1
              try clear p2
              try clear c4
              try clear c4b0
              try clear c4b1
              try clear c5
              try clear c5b0
              try clear c5b1
              try clear c6
              try clear c6b0
              try clear c7
              try clear c9
              try clear c9b0
              try clear c9b1
              try clear c11
              try clear c11b0
              try clear c11b1
              try clear p15
              try clear q15
              try clear hx15
              try clear qi15
              try clear c16
              try clear c16b0
              try clear c16b1
              try clear hcz8_0
              try clear hcz8_1
              try clear hcz8_2
              try clear hfz8_0
              try clear hfz8_1
              try clear hfz8_2
              try clear hx152_0
              try clear hx152_1
              try clear hx152_2
              try clear hx152_3
              try clear hx152_4
              try clear hx152_5
              try clear hx153_0
              try clear hx153_1
              try clear hx153_2
              try clear hx153_3
              try clear hx153_4
              try clear hx153_5
              try clear hx154_0
              try clear hx154_1
              try clear hx154_2
              try clear hx154_3
              try clear hx154_4
              try clear hx154_5
              try clear hx157_0
              try clear hx157_1
              try clear hx157_2
              try clear hx157_3
              try clear hx157_4
              try clear hx157_5
              try clear p1
              try clear p152
              try clear p153
              try clear p154
              try clear p157
              try clear p2
              try clear q1
              try clear q152
              try clear q153
              try clear q154
              try clear q157
              obtain ⟨kq, x45_12, rfl, HA, HJ12, BK151, HB⟩ := hcut
              cases kq with
              | zero => exact absurd HA.out (by simp [spec_three.j1])
              | succ kj12 =>
                have H := HA.out
                clear HA
                simp only [spec_three.j1] at H
                by_cases c17 : x45_12 = true
                · subst c17
                  have H1 : (some (0, (⟨#[]⟩ : ByteArray), (⟨#[]⟩ : ByteArray), 0)) = some (r1, r2, r3, r4) := by rw [if_pos rfl] at H; exact H
                  clear H
                  have H := H1
                  clear H1
                  simp only [Option.some.injEq, Prod.mk.injEq] at H
                  obtain ⟨rfl, rfl, rfl, rfl⟩ := H
                  have hcz18_0 : wc.cell? ⟨gb151, 0, none⟩ = some (.int .i64 0) := (blk_cell BK151.out 0).trans rfl
                  have hcz18_1 : wc.cell? ⟨gb151, 1, none⟩ = some (.string (⟨#[]⟩ : ByteArray)) := (blk_cell BK151.out 1).trans rfl
                  have hcz18_2 : wc.cell? ⟨gb151, 2, none⟩ = some (.string (⟨#[]⟩ : ByteArray)) := (blk_cell BK151.out 2).trans rfl
                  have hfz18_0 := blk_frozen BK151.out 0
                  have hfz18_1 := blk_frozen BK151.out 1
                  have hfz18_2 := blk_frozen BK151.out 2
                  go_wp2
                  refine bodyPost_ret (results_ct rfl _ _ gb151 28 #[.int .i64 0, .string (⟨#[]⟩ : ByteArray), .string (⟨#[]⟩ : ByteArray)] (0, 0) _ rfl (by (with_reducible repeat (first | refine blk_drewN ?_ _ | refine blk_drew ?_ | refine blk_alloc ?_ _)); refine blk_put (cs := #[.int .i64 0, .string (⟨#[]⟩ : ByteArray), .string (⟨#[]⟩ : ByteArray)]) ?_ 2 _ rfl; (with_reducible repeat (first | refine blk_drewN ?_ _ | refine blk_drew ?_ | refine blk_alloc ?_ _)); refine blk_put (cs := #[.int .i64 0, .string (⟨#[]⟩ : ByteArray), .string (⟨#[]⟩ : ByteArray)]) ?_ 1 _ rfl; (with_reducible repeat (first | refine blk_drewN ?_ _ | refine blk_drew ?_ | refine blk_alloc ?_ _)); refine blk_put (cs := #[.int .i64 0, .string (⟨#[]⟩ : ByteArray), .string (⟨#[]⟩ : ByteArray)]) ?_ 0 _ rfl; (with_reducible repeat (first | refine blk_drewN ?_ _ | refine blk_drew ?_ | refine blk_alloc ?_ _)); exact BK151.out) Tryz.underlying28 rfl (by kernel_rfl)) rfl ?_
                  exact ⟨by first | rfl | (simp [errW_none, errW_some] <;> rfl) | (simp [*, errW_none, errW_some] <;> rfl) | (simp [*, q_isEmpty]; done) | (simp [*]; exact q_gt _ _ (by assumption)), by repeat (first | (with_reducible first | exact HB.out | apply below_alloc | apply pw_below_drewN | apply below_drew1 | refine below_set ?_ GE151.out) | exact HB.out)⟩
                · replace c17 := Bool.eq_false_iff.mpr c17
                  subst c17
                  have H1 : (if t156 = 2 then (some (0, (⟨#[]⟩ : ByteArray), (⟨#[]⟩ : ByteArray), 2)) else (if t159 = 2 then (some (0, (⟨#[]⟩ : ByteArray), (⟨#[]⟩ : ByteArray), 2)) else (if t155.toList = ([] : List UInt8) then (some (0, (⟨#[]⟩ : ByteArray), (⟨#[]⟩ : ByteArray), 2)) else (if 1 < (l0.length : Int) then (some (wrap64 (((rd_T61 l0 1).f0) - 4), t155, t158, 1)) else (none))))) = some (r1, r2, r3, r4) := by rw [if_neg (show ¬ (false = true) by decide)] at H; exact H
                  clear H
                  have H := H1
                  clear H1
                  by_cases c19 : t156 = 2
                  · rw [if_pos c19] at H
                    have c19b0 : (t156 == 2) = true := beq_iff_eq.mpr c19
                    have c19b1 : (t156 != 2) = false := bne_eq_false_iff_eq.mpr c19
                    clear c19
                    simp only [Option.some.injEq, Prod.mk.injEq] at H
                    obtain ⟨rfl, rfl, rfl, rfl⟩ := H
                    have hcz20_0 : wc.cell? ⟨gb151, 0, none⟩ = some (.int .i64 0) := (blk_cell BK151.out 0).trans rfl
                    have hcz20_1 : wc.cell? ⟨gb151, 1, none⟩ = some (.string (⟨#[]⟩ : ByteArray)) := (blk_cell BK151.out 1).trans rfl
                    have hcz20_2 : wc.cell? ⟨gb151, 2, none⟩ = some (.string (⟨#[]⟩ : ByteArray)) := (blk_cell BK151.out 2).trans rfl
                    have hfz20_0 := blk_frozen BK151.out 0
                    have hfz20_1 := blk_frozen BK151.out 1
                    have hfz20_2 := blk_frozen BK151.out 2
                    go_wp2
                    refine bodyPost_ret (results_ct rfl _ _ gb151 28 #[.int .i64 0, .string (⟨#[]⟩ : ByteArray), .string (⟨#[]⟩ : ByteArray)] (0, 0) _ rfl (by (with_reducible repeat (first | refine blk_drewN ?_ _ | refine blk_drew ?_ | refine blk_alloc ?_ _)); refine blk_put (cs := #[.int .i64 0, .string (⟨#[]⟩ : ByteArray), .string (⟨#[]⟩ : ByteArray)]) ?_ 2 _ rfl; (with_reducible repeat (first | refine blk_drewN ?_ _ | refine blk_drew ?_ | refine blk_alloc ?_ _)); refine blk_put (cs := #[.int .i64 0, .string (⟨#[]⟩ : ByteArray), .string (⟨#[]⟩ : ByteArray)]) ?_ 1 _ rfl; (with_reducible repeat (first | refine blk_drewN ?_ _ | refine blk_drew ?_ | refine blk_alloc ?_ _)); refine blk_put (cs := #[.int .i64 0, .string (⟨#[]⟩ : ByteArray), .string (⟨#[]⟩ : ByteArray)]) ?_ 0 _ rfl; (with_reducible repeat (first | refine blk_drewN ?_ _ | refine blk_drew ?_ | refine blk_alloc ?_ _)); exact BK151.out) Tryz.underlying28 rfl (by kernel_rfl)) rfl ?_
                    exact ⟨by first | rfl | (simp [errW_none, errW_some] <;> rfl) | (simp [*, errW_none, errW_some] <;> rfl) | (simp [*, q_isEmpty]; done) | (simp [*]; exact q_gt _ _ (by assumption)), by repeat (first | (with_reducible first | exact HB.out | apply below_alloc | apply pw_below_drewN | apply below_drew1 | refine below_set ?_ GE151.out) | exact HB.out)⟩
                  · rw [if_neg c19] at H
                    have c19b0 : (t156 == 2) = false := beq_eq_false_iff_ne.mpr c19
                    have c19b1 : (t156 != 2) = true := bne_iff_ne.mpr c19
                    by_cases c21 : t159 = 2
                    · rw [if_pos c21] at H
                      have c21b0 : (t159 == 2) = true := beq_iff_eq.mpr c21
                      have c21b1 : (t159 != 2) = false := bne_eq_false_iff_eq.mpr c21
                      clear c21
                      simp only [Option.some.injEq, Prod.mk.injEq] at H
                      obtain ⟨rfl, rfl, rfl, rfl⟩ := H
                      have hcz22_0 : wc.cell? ⟨gb151, 0, none⟩ = some (.int .i64 0) := (blk_cell BK151.out 0).trans rfl
                      have hcz22_1 : wc.cell? ⟨gb151, 1, none⟩ = some (.string (⟨#[]⟩ : ByteArray)) := (blk_cell BK151.out 1).trans rfl
                      have hcz22_2 : wc.cell? ⟨gb151, 2, none⟩ = some (.string (⟨#[]⟩ : ByteArray)) := (blk_cell BK151.out 2).trans rfl
                      have hfz22_0 := blk_frozen BK151.out 0
                      have hfz22_1 := blk_frozen BK151.out 1
                      have hfz22_2 := blk_frozen BK151.out 2
                      go_wp2
                      refine bodyPost_ret (results_ct rfl _ _ gb151 28 #[.int .i64 0, .string (⟨#[]⟩ : ByteArray), .string (⟨#[]⟩ : ByteArray)] (0, 0) _ rfl (by (with_reducible repeat (first | refine blk_drewN ?_ _ | refine blk_drew ?_ | refine blk_alloc ?_ _)); refine blk_put (cs := #[.int .i64 0, .string (⟨#[]⟩ : ByteArray), .string (⟨#[]⟩ : ByteArray)]) ?_ 2 _ rfl; (with_reducible repeat (first | refine blk_drewN ?_ _ | refine blk_drew ?_ | refine blk_alloc ?_ _)); refine blk_put (cs := #[.int .i64 0, .string (⟨#[]⟩ : ByteArray), .string (⟨#[]⟩ : ByteArray)]) ?_ 1 _ rfl; (with_reducible repeat (first | refine blk_drewN ?_ _ | refine blk_drew ?_ | refine blk_alloc ?_ _)); refine blk_put (cs := #[.int .i64 0, .string (⟨#[]⟩ : ByteArray), .string (⟨#[]⟩ : ByteArray)]) ?_ 0 _ rfl; (with_reducible repeat (first | refine blk_drewN ?_ _ | refine blk_drew ?_ | refine blk_alloc ?_ _)); exact BK151.out) Tryz.underlying28 rfl (by kernel_rfl)) rfl ?_
                      exact ⟨by first | rfl | (simp [errW_none, errW_some] <;> rfl) | (simp [*, errW_none, errW_some] <;> rfl) | (simp [*, q_isEmpty]; done) | (simp [*]; exact q_gt _ _ (by assumption)), by repeat (first | (with_reducible first | exact HB.out | apply below_alloc | apply pw_below_drewN | apply below_drew1 | refine below_set ?_ GE151.out) | exact HB.out)⟩
                    · rw [if_neg c21] at H
                      have c21b0 : (t159 == 2) = false := beq_eq_false_iff_ne.mpr c21
                      have c21b1 : (t159 != 2) = true := bne_iff_ne.mpr c21
                      by_cases c23 : t155.toList = ([] : List UInt8)
                      · rw [if_pos c23] at H
                        have c23b0 : (t155.toList == ([] : List UInt8)) = true := beq_iff_eq.mpr c23
                        have c23b1 : (t155.toList != ([] : List UInt8)) = false := bne_eq_false_iff_eq.mpr c23
                        clear c23
                        simp only [Option.some.injEq, Prod.mk.injEq] at H
                        obtain ⟨rfl, rfl, rfl, rfl⟩ := H
                        have hcz24_0 : wc.cell? ⟨gb151, 0, none⟩ = some (.int .i64 0) := (blk_cell BK151.out 0).trans rfl
                        have hcz24_1 : wc.cell? ⟨gb151, 1, none⟩ = some (.string (⟨#[]⟩ : ByteArray)) := (blk_cell BK151.out 1).trans rfl
                        have hcz24_2 : wc.cell? ⟨gb151, 2, none⟩ = some (.string (⟨#[]⟩ : ByteArray)) := (blk_cell BK151.out 2).trans rfl
                        have hfz24_0 := blk_frozen BK151.out 0
                        have hfz24_1 := blk_frozen BK151.out 1
                        have hfz24_2 := blk_frozen BK151.out 2
                        go_wp2
                        refine bodyPost_ret (results_ct rfl _ _ gb151 28 #[.int .i64 0, .string (⟨#[]⟩ : ByteArray), .string (⟨#[]⟩ : ByteArray)] (0, 0) _ rfl (by (with_reducible repeat (first | refine blk_drewN ?_ _ | refine blk_drew ?_ | refine blk_alloc ?_ _)); refine blk_put (cs := #[.int .i64 0, .string (⟨#[]⟩ : ByteArray), .string (⟨#[]⟩ : ByteArray)]) ?_ 2 _ rfl; (with_reducible repeat (first | refine blk_drewN ?_ _ | refine blk_drew ?_ | refine blk_alloc ?_ _)); refine blk_put (cs := #[.int .i64 0, .string (⟨#[]⟩ : ByteArray), .string (⟨#[]⟩ : ByteArray)]) ?_ 1 _ rfl; (with_reducible repeat (first | refine blk_drewN ?_ _ | refine blk_drew ?_ | refine blk_alloc ?_ _)); refine blk_put (cs := #[.int .i64 0, .string (⟨#[]⟩ : ByteArray), .string (⟨#[]⟩ : ByteArray)]) ?_ 0 _ rfl; (with_reducible repeat (first | refine blk_drewN ?_ _ | refine blk_drew ?_ | refine blk_alloc ?_ _)); exact BK151.out) Tryz.underlying28 rfl (by kernel_rfl)) rfl ?_
                        exact ⟨by first | rfl | (simp [errW_none, errW_some] <;> rfl) | (simp [*, errW_none, errW_some] <;> rfl) | (simp [*, q_isEmpty]; done) | (simp [*]; exact q_gt _ _ (by assumption)), by repeat (first | (with_reducible first | exact HB.out | apply below_alloc | apply pw_below_drewN | apply below_drew1 | refine below_set ?_ GE151.out) | exact HB.out)⟩
                      · rw [if_neg c23] at H
                        have c23b0 : (t155.toList == ([] : List UInt8)) = false := beq_eq_false_iff_ne.mpr c23
                        have c23b1 : (t155.toList != ([] : List UInt8)) = true := bne_iff_ne.mpr c23
                        by_cases c25 : 1 < (l0.length : Int)
                        · rw [if_pos c25] at H
                          have c25b0 : decide (1 < (l0.length : Int)) = true := decide_eq_true c25
                          have c25b1 : decide (1 < l0.length) = true := decide_eq_true (by omega)
                          clear c25
                          simp only [Option.some.injEq, Prod.mk.injEq] at H
                          obtain ⟨rfl, rfl, rfl, rfl⟩ := H
                          have p160 : 0 ≤ (1 : Int) := (by omega)
                          have q160 : 1 < (l0.length : Int) := of_decide_eq_true (by first | (with_reducible assumption) | assumption)
                          obtain ⟨ad160, e160, hx160_0, hx160_1, hx160_2, hx160_3, hx160_4, hx160_5⟩ := at_T61 HR0.out 1 p160 q160
                          obtain rfl : ad154 = ad160 := (by injection e160)
                          (try simp only [show (1 : Int).toNat = 1 from rfl, Nat.reduceMul, Nat.reduceEqDiff, Go.Addr.add, ↓reduceIte] at hx160_0)
                          (try simp only [show (1 : Int).toNat = 1 from rfl, Nat.reduceMul, Nat.reduceEqDiff, Go.Addr.add, ↓reduceIte] at hx160_1)
                          (try simp only [show (1 : Int).toNat = 1 from rfl, Nat.reduceMul, Nat.reduceEqDiff, Go.Addr.add, ↓reduceIte] at hx160_2)
                          (try simp only [show (1 : Int).toNat = 1 from rfl, Nat.reduceMul, Nat.reduceEqDiff, Go.Addr.add, ↓reduceIte] at hx160_3)
                          (try simp only [show (1 : Int).toNat = 1 from rfl, Nat.reduceMul, Nat.reduceEqDiff, Go.Addr.add, ↓reduceIte] at hx160_4)
                          (try simp only [show (1 : Int).toNat = 1 from rfl, Nat.reduceMul, Nat.reduceEqDiff, Go.Addr.add, ↓reduceIte] at hx160_5)
                          have qi160 : (1 < l0.length) = True := eq_true (by omega)
                          (try rw [show ((1 : Int)).toNat = 1 from rfl] at hx160_0)
                          (try rw [show 1 * 6 = 6 from rfl] at hx160_0)
                          (try rw [show ((1 : Int)).toNat = 1 from rfl] at hx160_1)
                          (try rw [show 1 * 6 = 6 from rfl] at hx160_1)
                          (try rw [show ((1 : Int)).toNat = 1 from rfl] at hx160_2)
                          (try rw [show 1 * 6 = 6 from rfl] at hx160_2)
                          (try rw [show ((1 : Int)).toNat = 1 from rfl] at hx160_3)
                          (try rw [show 1 * 6 = 6 from rfl] at hx160_3)
                          (try rw [show ((1 : Int)).toNat = 1 from rfl] at hx160_4)
                          (try rw [show 1 * 6 = 6 from rfl] at hx160_4)
                          (try rw [show ((1 : Int)).toNat = 1 from rfl] at hx160_5)
                          (try rw [show 1 * 6 = 6 from rfl] at hx160_5)
                          replace hx160_0 := (HB.out.cell (World.block_lt_of_cell? w _ hx160_0)).trans hx160_0
                          replace hx160_1 := (HB.out.cell (World.block_lt_of_cell? w _ hx160_1)).trans hx160_1
                          replace hx160_2 := (HB.out.cell (World.block_lt_of_cell? w _ hx160_2)).trans hx160_2
                          replace hx160_3 := (HB.out.cell (World.block_lt_of_cell? w _ hx160_3)).trans hx160_3
                          replace hx160_4 := (HB.out.cell (World.block_lt_of_cell? w _ hx160_4)).trans hx160_4
                          replace hx160_5 := (HB.out.cell (World.block_lt_of_cell? w _ hx160_5)).trans hx160_5
                          replace p160 := eq_true p160
                          replace q160 := eq_true q160
                          have hcz26_0 : wc.cell? ⟨gb151, 0, none⟩ = some (.int .i64 0) := (blk_cell BK151.out 0).trans rfl
                          have hcz26_1 : wc.cell? ⟨gb151, 1, none⟩ = some (.string (⟨#[]⟩ : ByteArray)) := (blk_cell BK151.out 1).trans rfl
                          have hcz26_2 : wc.cell? ⟨gb151, 2, none⟩ = some (.string (⟨#[]⟩ : ByteArray)) := (blk_cell BK151.out 2).trans rfl
                          have hfz26_0 := blk_frozen BK151.out 0
                          have hfz26_1 := blk_frozen BK151.out 1
                          have hfz26_2 := blk_frozen BK151.out 2
                          go_wp2
                          refine bodyPost_ret (results_ct rfl _ _ gb151 28 #[.int .i64 (wrap64 (((rd_T61 l0 1).f0) - 4)), .string t155, .string t158] (0, 0) _ rfl (by (with_reducible repeat (first | refine blk_drewN ?_ _ | refine blk_drew ?_ | refine blk_alloc ?_ _)); refine blk_put (cs := #[.int .i64 (wrap64 (((rd_T61 l0 1).f0) - 4)), .string t155, .string (⟨#[]⟩ : ByteArray)]) ?_ 2 _ rfl; (with_reducible repeat (first | refine blk_drewN ?_ _ | refine blk_drew ?_ | refine blk_alloc ?_ _)); refine blk_put (cs := #[.int .i64 (wrap64 (((rd_T61 l0 1).f0) - 4)), .string (⟨#[]⟩ : ByteArray), .string (⟨#[]⟩ : ByteArray)]) ?_ 1 _ rfl; (with_reducible repeat (first | refine blk_drewN ?_ _ | refine blk_drew ?_ | refine blk_alloc ?_ _)); refine blk_put (cs := #[.int .i64 0, .string (⟨#[]⟩ : ByteArray), .string (⟨#[]⟩ : ByteArray)]) ?_ 0 _ rfl; (with_reducible repeat (first | refine blk_drewN ?_ _ | refine blk_drew ?_ | refine blk_alloc ?_ _)); exact BK151.out) Tryz.underlying28 rfl (by kernel_rfl)) rfl ?_
                          exact ⟨by first | rfl | (simp [errW_none, errW_some] <;> rfl) | (simp [*, errW_none, errW_some] <;> rfl) | (simp [*, q_isEmpty]; done) | (simp [*]; exact q_gt _ _ (by assumption)), by repeat (first | (with_reducible first | exact HB.out | apply below_alloc | apply pw_below_drewN | apply below_drew1 | refine below_set ?_ GE151.out) | exact HB.out)⟩
                        · rw [if_neg c25] at H
                          exact absurd H (by simp)
          · rw [if_neg c11] at H
            exact absurd H (by simp)
        · rw [if_neg c9] at H
          exact absurd H (by simp)

end Go.Proofs.YtnnhehlieakedaaGreatDoor.Q
