-- Printed for this seat by wip/pp.py of this repo; nothing here is trusted: Lean checks it.
import Derived.Test.YtkbaihcamimnjaaDoorQ0
import Derived.Test.YtkbaihcamimnjaaDoorQspecLegacyMetric
import Derived.Test.YtkbaihcamimnjaaDoorQspecValid
import Derived.Test.YtkbaihcamimnjaaDoorQspecfits
import Derived.Test.YtkbaihcamimnjaaDoorQspechexadecimal
import Derived.Test.YtkbaihcamimnjaaDoorQspecpoint
import Derived.Test.YtkbaihcamimnjaaDoorQspecruneLen
namespace Go.Proofs.YtkbaihcamimnjaaDoor.Q
open Go.RowKit Go.Proofs.YtkbaihcamimnjaaDoorW.PrintWords Go.Proofs.YtkbaihcamimnjaaDoorW.PrintLast Go.Proofs.YtkbaihcamimnjaaDoorW.PrintMore
attribute [local go_sem] max2_int min2_int max_two min_two max_three min_three max_four min_four   -- for this text's walks alone
set_option linter.unusedVariables false
set_option linter.unusedSimpArgs false

/-! ### spec_Escape: function 18 -/
mutual
def spec_Escape.j0 : Nat → ByteArray → Int → Bool → Option (ByteArray × Int)
  | 0, _, _, _ => none
  | k + 1, x0, x1, x27 => if x27 = true then (some ((⟨#[]⟩ : ByteArray), 2)) else ((spec_LegacyMetric.f k x0).bind fun t170 => (if t170 = true then (spec_Escape.j1 k x0 x1 (x1 != 2)) else (spec_Escape.j1 k x0 x1 false)))
def spec_Escape.j1 : Nat → ByteArray → Int → Bool → Option (ByteArray × Int)
  | 0, _, _, _ => none
  | k + 1, x0, x1, x33 => if x33 = true then (some (x0, 1)) else (if x1 = 3 then (spec_Escape.j2 k x0 x1 (⟨#[85, 95, 95]⟩ : ByteArray)) else (spec_Escape.j2 k x0 x1 (⟨#[]⟩ : ByteArray)))
def spec_Escape.j2 : Nat → ByteArray → Int → ByteArray → Option (ByteArray × Int)
  | 0, _, _, _ => none
  | k + 1, x0, x1, x6 => spec_Escape.l0 k x0 x1 x6 0
def spec_Escape.l0 : Nat → ByteArray → Int → ByteArray → Int → Option (ByteArray × Int)
  | 0, _, _, _, _ => none
  | k + 1, x0, x1, x6, x7 => if x7 < (x0.size : Int) then (if 0 ≤ x7 then (if x7 ≤ (x0.size : Int) then ((spec_runeLen.f k (x0.extract (x7 : Int).toNat x0.size)).bind fun t171 => (if t171 = 1 then ((spec_fits.f (bt x0 x7) (x7 == 0)).bind fun t172 => (spec_Escape.j4 k x0 x1 x6 x7 t171 t172)) else (spec_Escape.j4 k x0 x1 x6 x7 t171 false))) else (none)) else (none)) else (some (x6, 1))
def spec_Escape.j4 : Nat → ByteArray → Int → ByteArray → Int → Int → Bool → Option (ByteArray × Int)
  | 0, _, _, _, _, _, _ => none
  | k + 1, x0, x1, x6, x7, x8, x9 => if x9 = true then (if 0 ≤ x7 then (if x7 < (x0.size : Int) then (if (bt x0 x7) = 95 then (spec_Escape.j5 k x0 x1 x6 x7 x8 x9 (x1 != 1)) else (spec_Escape.j5 k x0 x1 x6 x7 x8 x9 false)) else (none)) else (none)) else (spec_Escape.j5 k x0 x1 x6 x7 x8 x9 false)
def spec_Escape.j5 : Nat → ByteArray → Int → ByteArray → Int → Int → Bool → Bool → Option (ByteArray × Int)
  | 0, _, _, _, _, _, _, _ => none
  | k + 1, x0, x1, x6, x7, x8, x9, x65 => if x65 = true then (if x6.size + 2 ≤ 9223372036854775807 then (spec_Escape.l0 k x0 x1 (x6 ++ (⟨#[95, 95]⟩ : ByteArray)) (wrap64 (x7 + x8))) else (none)) else (if x9 = true then (if 0 ≤ x7 then (if x7 ≤ (wrap64 (x7 + 1)) then (if (wrap64 (x7 + 1)) ≤ (x0.size : Int) then (if x6.size + (x0.extract (x7 : Int).toNat ((wrap64 (x7 + 1)) : Int).toNat).size ≤ 9223372036854775807 then (spec_Escape.l0 k x0 x1 (x6 ++ (x0.extract (x7 : Int).toNat ((wrap64 (x7 + 1)) : Int).toNat)) (wrap64 (x7 + x8))) else (none)) else (none)) else (none)) else (none)) else (if x1 = 1 then (if x6.size + 1 ≤ 9223372036854775807 then (spec_Escape.l0 k x0 x1 (x6 ++ (⟨#[95]⟩ : ByteArray)) (wrap64 (x7 + x8))) else (none)) else (if x1 = 2 then (if 0 ≤ x7 then (if x7 < (x0.size : Int) then (spec_Escape.j6 k x0 x1 x6 x7 x8 ((bt x0 x7) == 46)) else (none)) else (none)) else (spec_Escape.j6 k x0 x1 x6 x7 x8 false))))
def spec_Escape.j6 : Nat → ByteArray → Int → ByteArray → Int → Int → Bool → Option (ByteArray × Int)
  | 0, _, _, _, _, _, _ => none
  | k + 1, x0, x1, x6, x7, x8, x93 => if x93 = true then (if x6.size + 5 ≤ 9223372036854775807 then (spec_Escape.l0 k x0 x1 (x6 ++ (⟨#[95, 100, 111, 116, 95]⟩ : ByteArray)) (wrap64 (x7 + x8))) else (none)) else (if x1 = 2 then (some ((⟨#[]⟩ : ByteArray), 2)) else (if 0 ≤ x7 then (if x7 ≤ (x0.size : Int) then ((spec_point.f (x0.extract (x7 : Int).toNat x0.size) x8).bind fun t173 => ((spec_hexadecimal.f k t173).bind fun t174 => (if 1 + t174.size ≤ 9223372036854775807 then (if ((⟨#[95]⟩ : ByteArray) ++ t174).size + 1 ≤ 9223372036854775807 then (if x6.size + (((⟨#[95]⟩ : ByteArray) ++ t174) ++ (⟨#[95]⟩ : ByteArray)).size ≤ 9223372036854775807 then (spec_Escape.l0 k x0 x1 (x6 ++ (((⟨#[95]⟩ : ByteArray) ++ t174) ++ (⟨#[95]⟩ : ByteArray))) (wrap64 (x7 + x8))) else (none)) else (none)) else (none)))) else (none)) else (none)))
end
def spec_Escape.f (k : Nat) (a0 : ByteArray) (a1 : Int) : Option (ByteArray × Int) := if a1 = 0 then (some (a0, 1)) else (if a1 < 0 then (spec_Escape.j0 k a0 a1 true) else (if a1 > 3 then (spec_Escape.j0 k a0 a1 true) else (if a0.toList = ([] : List UInt8) then (spec_Escape.j0 k a0 a1 true) else ((spec_Valid.f k a0).bind fun t169 => (spec_Escape.j0 k a0 a1 (!t169))))))
theorem spec_Escape.mono_l : ∀ k, (∀ y0 y1 y2, LeO (spec_Escape.j0 k y0 y1 y2) (spec_Escape.j0 (k + 1) y0 y1 y2)) ∧ (∀ y0 y1 y2, LeO (spec_Escape.j1 k y0 y1 y2) (spec_Escape.j1 (k + 1) y0 y1 y2)) ∧ (∀ y0 y1 y2, LeO (spec_Escape.j2 k y0 y1 y2) (spec_Escape.j2 (k + 1) y0 y1 y2)) ∧ (∀ y0 y1 y2 y3, LeO (spec_Escape.l0 k y0 y1 y2 y3) (spec_Escape.l0 (k + 1) y0 y1 y2 y3)) ∧ (∀ y0 y1 y2 y3 y4 y5, LeO (spec_Escape.j4 k y0 y1 y2 y3 y4 y5) (spec_Escape.j4 (k + 1) y0 y1 y2 y3 y4 y5)) ∧ (∀ y0 y1 y2 y3 y4 y5 y6, LeO (spec_Escape.j5 k y0 y1 y2 y3 y4 y5 y6) (spec_Escape.j5 (k + 1) y0 y1 y2 y3 y4 y5 y6)) ∧ (∀ y0 y1 y2 y3 y4 y5, LeO (spec_Escape.j6 k y0 y1 y2 y3 y4 y5) (spec_Escape.j6 (k + 1) y0 y1 y2 y3 y4 y5))
  | 0 => ⟨fun _ _ _ r h => by simp [spec_Escape.j0] at h, fun _ _ _ r h => by simp [spec_Escape.j1] at h, fun _ _ _ r h => by simp [spec_Escape.j2] at h, fun _ _ _ _ r h => by simp [spec_Escape.l0] at h, fun _ _ _ _ _ _ r h => by simp [spec_Escape.j4] at h, fun _ _ _ _ _ _ _ r h => by simp [spec_Escape.j5] at h, fun _ _ _ _ _ _ r h => by simp [spec_Escape.j6] at h⟩
  | k + 1 => by
    obtain ⟨ih0, ih1, ih2, ih3, ih4, ih5, ih6⟩ := spec_Escape.mono_l k
    refine ⟨?_, ?_, ?_, ?_, ?_, ?_, ?_⟩
    · intro y0 y1 y2
      unfold spec_Escape.j0
      repeat' first
      | (with_reducible exact ih0 _ _ _)
      | (with_reducible exact ih1 _ _ _)
      | (with_reducible exact ih2 _ _ _)
      | (with_reducible exact ih3 _ _ _ _)
      | (with_reducible exact ih4 _ _ _ _ _ _)
      | (with_reducible exact ih5 _ _ _ _ _ _ _)
      | (with_reducible exact ih6 _ _ _ _ _ _)
      | (with_reducible exact spec_LegacyMetric.mono _ _)
      | (with_reducible exact spec_Valid.mono _ _)
      | (with_reducible exact spec_hexadecimal.mono _ _)
      | (with_reducible exact spec_runeLen.mono _ _)
      | (with_reducible exact LeO.refl _)
      | (with_reducible exact LeO.none _)
      | (with_reducible refine LeO.ite ?_ ?_)
      | (with_reducible refine LeO.bind ?_ (fun _ => ?_))
      | exact ih0 _ _ _
      | exact ih1 _ _ _
      | exact ih2 _ _ _
      | exact ih3 _ _ _ _
      | exact ih4 _ _ _ _ _ _
      | exact ih5 _ _ _ _ _ _ _
      | exact ih6 _ _ _ _ _ _
      | exact spec_LegacyMetric.mono _ _
      | exact spec_Valid.mono _ _
      | exact spec_hexadecimal.mono _ _
      | exact spec_runeLen.mono _ _
      | exact LeO.none _
      | refine LeO.ite ?_ ?_
      | refine LeO.bind ?_ (fun _ => ?_)
    · intro y0 y1 y2
      unfold spec_Escape.j1
      repeat' first
      | (with_reducible exact ih0 _ _ _)
      | (with_reducible exact ih1 _ _ _)
      | (with_reducible exact ih2 _ _ _)
      | (with_reducible exact ih3 _ _ _ _)
      | (with_reducible exact ih4 _ _ _ _ _ _)
      | (with_reducible exact ih5 _ _ _ _ _ _ _)
      | (with_reducible exact ih6 _ _ _ _ _ _)
      | (with_reducible exact spec_LegacyMetric.mono _ _)
      | (with_reducible exact spec_Valid.mono _ _)
      | (with_reducible exact spec_hexadecimal.mono _ _)
      | (with_reducible exact spec_runeLen.mono _ _)
      | (with_reducible exact LeO.refl _)
      | (with_reducible exact LeO.none _)
      | (with_reducible refine LeO.ite ?_ ?_)
      | (with_reducible refine LeO.bind ?_ (fun _ => ?_))
      | exact ih0 _ _ _
      | exact ih1 _ _ _
      | exact ih2 _ _ _
      | exact ih3 _ _ _ _
      | exact ih4 _ _ _ _ _ _
      | exact ih5 _ _ _ _ _ _ _
      | exact ih6 _ _ _ _ _ _
      | exact spec_LegacyMetric.mono _ _
      | exact spec_Valid.mono _ _
      | exact spec_hexadecimal.mono _ _
      | exact spec_runeLen.mono _ _
      | exact LeO.none _
      | refine LeO.ite ?_ ?_
      | refine LeO.bind ?_ (fun _ => ?_)
    · intro y0 y1 y2
      unfold spec_Escape.j2
      repeat' first
      | (with_reducible exact ih0 _ _ _)
      | (with_reducible exact ih1 _ _ _)
      | (with_reducible exact ih2 _ _ _)
      | (with_reducible exact ih3 _ _ _ _)
      | (with_reducible exact ih4 _ _ _ _ _ _)
      | (with_reducible exact ih5 _ _ _ _ _ _ _)
      | (with_reducible exact ih6 _ _ _ _ _ _)
      | (with_reducible exact spec_LegacyMetric.mono _ _)
      | (with_reducible exact spec_Valid.mono _ _)
      | (with_reducible exact spec_hexadecimal.mono _ _)
      | (with_reducible exact spec_runeLen.mono _ _)
      | (with_reducible exact LeO.refl _)
      | (with_reducible exact LeO.none _)
      | (with_reducible refine LeO.ite ?_ ?_)
      | (with_reducible refine LeO.bind ?_ (fun _ => ?_))
      | exact ih0 _ _ _
      | exact ih1 _ _ _
      | exact ih2 _ _ _
      | exact ih3 _ _ _ _
      | exact ih4 _ _ _ _ _ _
      | exact ih5 _ _ _ _ _ _ _
      | exact ih6 _ _ _ _ _ _
      | exact spec_LegacyMetric.mono _ _
      | exact spec_Valid.mono _ _
      | exact spec_hexadecimal.mono _ _
      | exact spec_runeLen.mono _ _
      | exact LeO.none _
      | refine LeO.ite ?_ ?_
      | refine LeO.bind ?_ (fun _ => ?_)
    · intro y0 y1 y2 y3
      unfold spec_Escape.l0
      repeat' first
      | (with_reducible exact ih0 _ _ _)
      | (with_reducible exact ih1 _ _ _)
      | (with_reducible exact ih2 _ _ _)
      | (with_reducible exact ih3 _ _ _ _)
      | (with_reducible exact ih4 _ _ _ _ _ _)
      | (with_reducible exact ih5 _ _ _ _ _ _ _)
      | (with_reducible exact ih6 _ _ _ _ _ _)
      | (with_reducible exact spec_LegacyMetric.mono _ _)
      | (with_reducible exact spec_Valid.mono _ _)
      | (with_reducible exact spec_hexadecimal.mono _ _)
      | (with_reducible exact spec_runeLen.mono _ _)
      | (with_reducible exact LeO.refl _)
      | (with_reducible exact LeO.none _)
      | (with_reducible refine LeO.ite ?_ ?_)
      | (with_reducible refine LeO.bind ?_ (fun _ => ?_))
      | exact ih0 _ _ _
      | exact ih1 _ _ _
      | exact ih2 _ _ _
      | exact ih3 _ _ _ _
      | exact ih4 _ _ _ _ _ _
      | exact ih5 _ _ _ _ _ _ _
      | exact ih6 _ _ _ _ _ _
      | exact spec_LegacyMetric.mono _ _
      | exact spec_Valid.mono _ _
      | exact spec_hexadecimal.mono _ _
      | exact spec_runeLen.mono _ _
      | exact LeO.none _
      | refine LeO.ite ?_ ?_
      | refine LeO.bind ?_ (fun _ => ?_)
    · intro y0 y1 y2 y3 y4 y5
      unfold spec_Escape.j4
      repeat' first
      | (with_reducible exact ih0 _ _ _)
      | (with_reducible exact ih1 _ _ _)
      | (with_reducible exact ih2 _ _ _)
      | (with_reducible exact ih3 _ _ _ _)
      | (with_reducible exact ih4 _ _ _ _ _ _)
      | (with_reducible exact ih5 _ _ _ _ _ _ _)
      | (with_reducible exact ih6 _ _ _ _ _ _)
      | (with_reducible exact spec_LegacyMetric.mono _ _)
      | (with_reducible exact spec_Valid.mono _ _)
      | (with_reducible exact spec_hexadecimal.mono _ _)
      | (with_reducible exact spec_runeLen.mono _ _)
      | (with_reducible exact LeO.refl _)
      | (with_reducible exact LeO.none _)
      | (with_reducible refine LeO.ite ?_ ?_)
      | (with_reducible refine LeO.bind ?_ (fun _ => ?_))
      | exact ih0 _ _ _
      | exact ih1 _ _ _
      | exact ih2 _ _ _
      | exact ih3 _ _ _ _
      | exact ih4 _ _ _ _ _ _
      | exact ih5 _ _ _ _ _ _ _
      | exact ih6 _ _ _ _ _ _
      | exact spec_LegacyMetric.mono _ _
      | exact spec_Valid.mono _ _
      | exact spec_hexadecimal.mono _ _
      | exact spec_runeLen.mono _ _
      | exact LeO.none _
      | refine LeO.ite ?_ ?_
      | refine LeO.bind ?_ (fun _ => ?_)
    · intro y0 y1 y2 y3 y4 y5 y6
      unfold spec_Escape.j5
      repeat' first
      | (with_reducible exact ih0 _ _ _)
      | (with_reducible exact ih1 _ _ _)
      | (with_reducible exact ih2 _ _ _)
      | (with_reducible exact ih3 _ _ _ _)
      | (with_reducible exact ih4 _ _ _ _ _ _)
      | (with_reducible exact ih5 _ _ _ _ _ _ _)
      | (with_reducible exact ih6 _ _ _ _ _ _)
      | (with_reducible exact spec_LegacyMetric.mono _ _)
      | (with_reducible exact spec_Valid.mono _ _)
      | (with_reducible exact spec_hexadecimal.mono _ _)
      | (with_reducible exact spec_runeLen.mono _ _)
      | (with_reducible exact LeO.refl _)
      | (with_reducible exact LeO.none _)
      | (with_reducible refine LeO.ite ?_ ?_)
      | (with_reducible refine LeO.bind ?_ (fun _ => ?_))
      | exact ih0 _ _ _
      | exact ih1 _ _ _
      | exact ih2 _ _ _
      | exact ih3 _ _ _ _
      | exact ih4 _ _ _ _ _ _
      | exact ih5 _ _ _ _ _ _ _
      | exact ih6 _ _ _ _ _ _
      | exact spec_LegacyMetric.mono _ _
      | exact spec_Valid.mono _ _
      | exact spec_hexadecimal.mono _ _
      | exact spec_runeLen.mono _ _
      | exact LeO.none _
      | refine LeO.ite ?_ ?_
      | refine LeO.bind ?_ (fun _ => ?_)
    · intro y0 y1 y2 y3 y4 y5
      unfold spec_Escape.j6
      repeat' first
      | (with_reducible exact ih0 _ _ _)
      | (with_reducible exact ih1 _ _ _)
      | (with_reducible exact ih2 _ _ _)
      | (with_reducible exact ih3 _ _ _ _)
      | (with_reducible exact ih4 _ _ _ _ _ _)
      | (with_reducible exact ih5 _ _ _ _ _ _ _)
      | (with_reducible exact ih6 _ _ _ _ _ _)
      | (with_reducible exact spec_LegacyMetric.mono _ _)
      | (with_reducible exact spec_Valid.mono _ _)
      | (with_reducible exact spec_hexadecimal.mono _ _)
      | (with_reducible exact spec_runeLen.mono _ _)
      | (with_reducible exact LeO.refl _)
      | (with_reducible exact LeO.none _)
      | (with_reducible refine LeO.ite ?_ ?_)
      | (with_reducible refine LeO.bind ?_ (fun _ => ?_))
      | exact ih0 _ _ _
      | exact ih1 _ _ _
      | exact ih2 _ _ _
      | exact ih3 _ _ _ _
      | exact ih4 _ _ _ _ _ _
      | exact ih5 _ _ _ _ _ _ _
      | exact ih6 _ _ _ _ _ _
      | exact spec_LegacyMetric.mono _ _
      | exact spec_Valid.mono _ _
      | exact spec_hexadecimal.mono _ _
      | exact spec_runeLen.mono _ _
      | exact LeO.none _
      | refine LeO.ite ?_ ?_
      | refine LeO.bind ?_ (fun _ => ?_)
theorem spec_Escape.mono : ∀ a0 a1 k, LeO (spec_Escape.f k a0 a1) (spec_Escape.f (k + 1) a0 a1) := by
  intro a0 a1 k
  obtain ⟨ih0, ih1, ih2, ih3, ih4, ih5, ih6⟩ := spec_Escape.mono_l k
  unfold spec_Escape.f
  repeat' first
      | (with_reducible exact ih0 _ _ _)
      | (with_reducible exact ih1 _ _ _)
      | (with_reducible exact ih2 _ _ _)
      | (with_reducible exact ih3 _ _ _ _)
      | (with_reducible exact ih4 _ _ _ _ _ _)
      | (with_reducible exact ih5 _ _ _ _ _ _ _)
      | (with_reducible exact ih6 _ _ _ _ _ _)
      | (with_reducible exact spec_LegacyMetric.mono _ _)
      | (with_reducible exact spec_Valid.mono _ _)
      | (with_reducible exact spec_hexadecimal.mono _ _)
      | (with_reducible exact spec_runeLen.mono _ _)
      | (with_reducible exact LeO.refl _)
      | (with_reducible exact LeO.none _)
      | (with_reducible refine LeO.ite ?_ ?_)
      | (with_reducible refine LeO.bind ?_ (fun _ => ?_))
      | exact ih0 _ _ _
      | exact ih1 _ _ _
      | exact ih2 _ _ _
      | exact ih3 _ _ _ _
      | exact ih4 _ _ _ _ _ _
      | exact ih5 _ _ _ _ _ _ _
      | exact ih6 _ _ _ _ _ _
      | exact spec_LegacyMetric.mono _ _
      | exact spec_Valid.mono _ _
      | exact spec_hexadecimal.mono _ _
      | exact spec_runeLen.mono _ _
      | exact LeO.none _
      | refine LeO.ite ?_ ?_
      | refine LeO.bind ?_ (fun _ => ?_)
set_option maxHeartbeats 8000000 in
set_option maxRecDepth 100000 in
theorem spec_Escape.calls (k : Nat) (a0 : ByteArray) (a1 : Int) (r1 : ByteArray) (r2 : Int) (w : World) (h : spec_Escape.f k a0 a1 = some (r1, r2)) :
    Calls Tryd.prog 18 #[.string a0, .int .i64 a1] w fun e w' => e = .returned (.tuple #[.string r1, .int .i64 r2]) ∧ Drawn0 w w' := by
  have H : (if a1 = 0 then (some (a0, 1)) else (if a1 < 0 then (spec_Escape.j0 k a0 a1 true) else (if a1 > 3 then (spec_Escape.j0 k a0 a1 true) else (if a0.toList = ([] : List UInt8) then (spec_Escape.j0 k a0 a1 true) else ((spec_Valid.f k a0).bind fun t169 => (spec_Escape.j0 k a0 a1 (!t169))))))) = some (r1, r2) := h
  clear h
  by_cases c3 : a1 = 0
  · rw [if_pos c3] at H
    have c3b0 : (a1 == 0) = true := beq_iff_eq.mpr c3
    have c3b1 : (a1 != 0) = false := bne_eq_false_iff_eq.mpr c3
    clear c3
    simp only [Option.some.injEq, Prod.mk.injEq] at H
    obtain ⟨rfl, rfl⟩ := H
    go_enter Tryd.func18, Tryd.ntmps18
    go_wp2
    go_ret2
    exact ⟨by first | rfl | (simp; done) | (simp [*]; done) | (simp [*, q_isEmpty]; done) | (simp [*]; exact q_gt _ _ (by assumption)), by repeat (first | exact Drawn0.refl _ | apply Drawn0.step)⟩
  · rw [if_neg c3] at H
    have c3b0 : (a1 == 0) = false := beq_eq_false_iff_ne.mpr c3
    have c3b1 : (a1 != 0) = true := bne_iff_ne.mpr c3
    have HC4 := Aside0.mk H
    clear H
    go_enter Tryd.func18, Tryd.ntmps18
    go_upto_region 3 with (fail)
    go_cut [27] (fun v27 wc => ∃ (kq : Nat) (x27_3 : Bool), v27 = .bool x27_3 ∧ Aside0 (spec_Escape.j0 kq a0 a1 x27_3 = some (r1, r2)) ∧ Aside0 (kq ≤ k) ∧ Drawn0 w wc)
    case first =>
      have H := HC4.out
      clear HC4
      by_cases c5 : a1 < 0
      · rw [if_pos c5] at H
        have c5b0 : decide (a1 < 0) = true := decide_eq_true c5
        clear c5
        (first | rw [c5b0] | (simp only [i64_w, i32_w]; rw [c5b0]) | skip)
        have H' := Aside0.mk H
        clear H
        go_wp2
        go_meet
        case rel => exact ⟨_, (true), (by first | rfl | (simp; done) | (simp [*]; done) | (simp [*, q_isEmpty]; done) | (simp [*]; exact q_gt _ _ (by assumption))), H', ⟨by first | omega | exact Nat.le_refl _⟩, by repeat (first | exact Drawn0.refl _ | apply Drawn0.step)⟩
      · rw [if_neg c5] at H
        have c5b0 : decide (a1 < 0) = false := decide_eq_false c5
        clear c5
        (first | rw [c5b0] | (simp only [i64_w, i32_w]; rw [c5b0]) | skip)
        by_cases c6 : a1 > 3
        · rw [if_pos c6] at H
          have c6b0 : decide (3 < a1) = true := decide_eq_true c6
          clear c6
          have H' := Aside0.mk H
          clear H
          go_wp2
          go_meet
          case rel => exact ⟨_, (true), (by first | rfl | (simp; done) | (simp [*]; done) | (simp [*, q_isEmpty]; done) | (simp [*]; exact q_gt _ _ (by assumption))), H', ⟨by first | omega | exact Nat.le_refl _⟩, by repeat (first | exact Drawn0.refl _ | apply Drawn0.step)⟩
        · rw [if_neg c6] at H
          have c6b0 : decide (3 < a1) = false := decide_eq_false c6
          clear c6
          by_cases c7 : a0.toList = ([] : List UInt8)
          · rw [if_pos c7] at H
            have c7b0 : (a0.toList == ([] : List UInt8)) = true := beq_iff_eq.mpr c7
            have c7b1 : (a0.toList != ([] : List UInt8)) = false := bne_eq_false_iff_eq.mpr c7
            clear c7
            have H' := Aside0.mk H
            clear H
            go_wp2
            go_meet
            case rel => exact ⟨_, (true), (by first | rfl | (simp; done) | (simp [*]; done) | (simp [*, q_isEmpty]; done) | (simp [*]; exact q_gt _ _ (by assumption))), H', ⟨by first | omega | exact Nat.le_refl _⟩, by repeat (first | exact Drawn0.refl _ | apply Drawn0.step)⟩
          · rw [if_neg c7] at H
            have c7b0 : (a0.toList == ([] : List UInt8)) = false := beq_eq_false_iff_ne.mpr c7
            have c7b1 : (a0.toList != ([] : List UInt8)) = true := bne_iff_ne.mpr c7
            replace H := Option.bind_eq_some_iff.mp H
            obtain ⟨t169, A80, H⟩ := H
            replace H : (spec_Escape.j0 k a0 a1 (!t169)) = some (r1, r2) := H
            have A8 := Aside0.mk A80
            clear A80
            have H' := Aside0.mk H
            clear H
            go_wp2_with (first | (go_at_call 31; (with_reducible refine (spec_Valid.calls k a0 t169 _ A8.out).mono ?_); rintro e w' ⟨rfl, ⟨nd, rfl⟩⟩))
            go_meet
            case rel => exact ⟨_, (!t169), (by first | rfl | (simp; done) | (simp [*]; done) | (simp [*, q_isEmpty]; done) | (simp [*]; exact q_gt _ _ (by assumption))), H', ⟨by first | omega | exact Nat.le_refl _⟩, by repeat (first | exact Drawn0.refl _ | apply Drawn0.step)⟩
    case rest =>
      clear HC4
      try clear c1
      try clear p2
      try clear c3
      try clear c3b0
      try clear c3b1
      try clear c5
      try clear c5b0
      try clear c6
      try clear c6b0
      try clear c7
      try clear c7b0
      try clear c7b1
      obtain ⟨kq, x27_3, rfl, HA, HJ3, ⟨mc3, rfl⟩⟩ := hcut
      cases kq with
      | zero => exact absurd HA.out (by simp [spec_Escape.j0])
      | succ kj3 =>
        have H := HA.out
        clear HA
        simp only [spec_Escape.j0] at H
        by_cases c9 : x27_3 = true
        · subst c9
          have H1 : (some ((⟨#[]⟩ : ByteArray), 2)) = some (r1, r2) := by rw [if_pos rfl] at H; exact H
          clear H
          have H := H1
          clear H1
          simp only [Option.some.injEq, Prod.mk.injEq] at H
          obtain ⟨rfl, rfl⟩ := H
          go_wp2
          go_ret2
          exact ⟨by first | rfl | (simp; done) | (simp [*]; done) | (simp [*, q_isEmpty]; done) | (simp [*]; exact q_gt _ _ (by assumption)), by repeat (first | exact Drawn0.refl _ | apply Drawn0.step)⟩
        · replace c9 := Bool.eq_false_iff.mpr c9
          subst c9
          have H1 : ((spec_LegacyMetric.f kj3 a0).bind fun t170 => (if t170 = true then (spec_Escape.j1 kj3 a0 a1 (a1 != 2)) else (spec_Escape.j1 kj3 a0 a1 false))) = some (r1, r2) := by rw [if_neg (show ¬ (false = true) by decide)] at H; exact H
          clear H
          have H := H1
          clear H1
          have HC10 := Aside0.mk H
          clear H
          go_upto_region 5 with (fail)
          go_cut [33] (fun v33 wc => ∃ (kq : Nat) (x33_9 : Bool), v33 = .bool x33_9 ∧ Aside0 (spec_Escape.j1 kq a0 a1 x33_9 = some (r1, r2)) ∧ Aside0 (kq ≤ kj3) ∧ Drawn0 w wc)
          case first =>
            have H := HC10.out
            clear HC10
            replace H := Option.bind_eq_some_iff.mp H
            obtain ⟨t170, A110, H⟩ := H
            replace H : (if t170 = true then (spec_Escape.j1 kj3 a0 a1 (a1 != 2)) else (spec_Escape.j1 kj3 a0 a1 false)) = some (r1, r2) := H
            have A11 := Aside0.mk A110
            clear A110
            by_cases c12 : t170 = true
            · subst c12
              have H1 : (spec_Escape.j1 kj3 a0 a1 (a1 != 2)) = some (r1, r2) := by rw [if_pos rfl] at H; exact H
              clear H
              have H := H1
              clear H1
              have H' := Aside0.mk H
              clear H
              go_wp2_with (first | ((with_reducible refine gate_callee (f := 32) rfl ?_); refine goesL_ (some 29) rfl rfl Tryd.func32 (by kernel_rfl) rfl #[.string a0] rfl (by (try simp only [List.map_toArray, List.map_cons, List.map_nil]); first | done | rfl | (simp only [List.length_drop, List.length_take]; rfl)) ?_; (with_reducible refine (spec_LegacyMetric.calls kj3 a0 true _ A11.out).mono ?_); rintro e w' ⟨rfl, ⟨nd, rfl⟩⟩; refine ⟨_, rfl, ?_⟩))
              go_meet
              case rel => exact ⟨_, ((a1 != 2)), (by first | rfl | (simp; done) | (simp [*]; done) | (simp [*, q_isEmpty]; done) | (simp [*]; exact q_gt _ _ (by assumption))), H', ⟨by have := HJ3.out; first | omega | exact Nat.le_refl _⟩, by repeat (first | exact Drawn0.refl _ | apply Drawn0.step)⟩
            · replace c12 := Bool.eq_false_iff.mpr c12
              subst c12
              have H1 : (spec_Escape.j1 kj3 a0 a1 false) = some (r1, r2) := by rw [if_neg (show ¬ (false = true) by decide)] at H; exact H
              clear H
              have H := H1
              clear H1
              have H' := Aside0.mk H
              clear H
              go_wp2_with (first | ((with_reducible refine gate_callee (f := 32) rfl ?_); refine goesL_ (some 29) rfl rfl Tryd.func32 (by kernel_rfl) rfl #[.string a0] rfl (by (try simp only [List.map_toArray, List.map_cons, List.map_nil]); first | done | rfl | (simp only [List.length_drop, List.length_take]; rfl)) ?_; (with_reducible refine (spec_LegacyMetric.calls kj3 a0 false _ A11.out).mono ?_); rintro e w' ⟨rfl, ⟨nd, rfl⟩⟩; refine ⟨_, rfl, ?_⟩))
              go_meet
              case rel => exact ⟨_, (false), (by first | rfl | (simp; done) | (simp [*]; done) | (simp [*, q_isEmpty]; done) | (simp [*]; exact q_gt _ _ (by assumption))), H', ⟨by have := HJ3.out; first | omega | exact Nat.le_refl _⟩, by repeat (first | exact Drawn0.refl _ | apply Drawn0.step)⟩
          case rest =>
            clear HC10
            try clear c1
            try clear p2
            try clear c3
            try clear c3b0
            try clear c3b1
            try clear c5
            try clear c5b0
            try clear c6
            try clear c6b0
            try clear c7
            try clear c7b0
            try clear c7b1
            try clear c9
            try clear c12
            try clear p2
            obtain ⟨kq, x33_9, rfl, HA, HJ9, ⟨mc9, rfl⟩⟩ := hcut
            cases kq with
            | zero => exact absurd HA.out (by simp [spec_Escape.j1])
            | succ kj9 =>
              have H := HA.out
              clear HA
              simp only [spec_Escape.j1] at H
              by_cases c13 : x33_9 = true
              · subst c13
                have H1 : (some (a0, 1)) = some (r1, r2) := by rw [if_pos rfl] at H; exact H
                clear H
                have H := H1
                clear H1
                simp only [Option.some.injEq, Prod.mk.injEq] at H
                obtain ⟨rfl, rfl⟩ := H
                go_wp2
                go_ret2
                exact ⟨by first | rfl | (simp; done) | (simp [*]; done) | (simp [*, q_isEmpty]; done) | (simp [*]; exact q_gt _ _ (by assumption)), by repeat (first | exact Drawn0.refl _ | apply Drawn0.step)⟩
              · replace c13 := Bool.eq_false_iff.mpr c13
                subst c13
                have H1 : (if a1 = 3 then (spec_Escape.j2 kj9 a0 a1 (⟨#[85, 95, 95]⟩ : ByteArray)) else (spec_Escape.j2 kj9 a0 a1 (⟨#[]⟩ : ByteArray))) = some (r1, r2) := by rw [if_neg (show ¬ (false = true) by decide)] at H; exact H
                clear H
                have H := H1
                clear H1
                have HC14 := Aside0.mk H
                clear H
                go_upto_if 36 with (fail)
                go_cut [6] (fun v6 wc => ∃ (kq : Nat) (x6_13 : ByteArray), v6 = .string x6_13 ∧ Aside0 (spec_Escape.j2 kq a0 a1 x6_13 = some (r1, r2)) ∧ Aside0 (kq ≤ kj9) ∧ Drawn0 w wc)
                case first =>
                  have H := HC14.out
                  clear HC14
                  by_cases c15 : a1 = 3
                  · rw [if_pos c15] at H
                    have c15b0 : (a1 == 3) = true := beq_iff_eq.mpr c15
                    have c15b1 : (a1 != 3) = false := bne_eq_false_iff_eq.mpr c15
                    clear c15
                    (first | rw [c15b0] | (simp only [i64_w, i32_w]; rw [c15b0]) | skip)
                    have H' := Aside0.mk H
                    clear H
                    go_wp2
                    go_meet
                    case rel => exact ⟨_, ((⟨#[85, 95, 95]⟩ : ByteArray)), (by first | rfl | (simp; done) | (simp [*]; done) | (simp [*, q_isEmpty]; done) | (simp [*]; exact q_gt _ _ (by assumption))), H', ⟨by have := HJ3.out; have := HJ9.out; first | omega | exact Nat.le_refl _⟩, by repeat (first | exact Drawn0.refl _ | apply Drawn0.step)⟩
                  · rw [if_neg c15] at H
                    have c15b0 : (a1 == 3) = false := beq_eq_false_iff_ne.mpr c15
                    have c15b1 : (a1 != 3) = true := bne_iff_ne.mpr c15
                    (first | rw [c15b0] | (simp only [i64_w, i32_w]; rw [c15b0]) | skip)
                    have H' := Aside0.mk H
                    clear H
                    go_wp2
                    go_meet
                    case rel => exact ⟨_, ((⟨#[]⟩ : ByteArray)), (by first | rfl | (simp; done) | (simp [*]; done) | (simp [*, q_isEmpty]; done) | (simp [*]; exact q_gt _ _ (by assumption))), H', ⟨by have := HJ3.out; have := HJ9.out; first | omega | exact Nat.le_refl _⟩, by repeat (first | exact Drawn0.refl _ | apply Drawn0.step)⟩
                case rest =>
                  clear HC14
                  try clear c1
                  try clear p2
                  try clear c3
                  try clear c3b0
                  try clear c3b1
                  try clear c5
                  try clear c5b0
                  try clear c6
                  try clear c6b0
                  try clear c7
                  try clear c7b0
                  try clear c7b1
                  try clear c9
                  try clear c12
                  try clear c13
                  try clear c15
                  try clear c15b0
                  try clear c15b1
                  try clear p2
                  obtain ⟨kq, x6_13, rfl, HA, HJ13, ⟨mc13, rfl⟩⟩ := hcut
                  cases kq with
                  | zero => exact absurd HA.out (by simp [spec_Escape.j2])
                  | succ kj13 =>
                    have H := HA.out
                    clear HA
                    simp only [spec_Escape.j2] at H
                    have H' := Aside0.mk H
                    clear H
                    go_wp2
                    go_loopg [6, 7] kj13 (fun kq v6 v7 w' => ∃ (x6_4 : ByteArray) (x7_4 : Int), v6 = .string x6_4 ∧ v7 = .int .i64 x7_4 ∧ Aside0 (spec_Escape.l0 kq a0 a1 x6_4 x7_4 = some (r1, r2)) ∧ Aside0 (kq ≤ kj13) ∧ Drawn0 w w')
                    case atStart => exact ⟨(x6_13), (0), (by first | rfl | (simp; done) | (simp [*]; done) | (simp [*, q_isEmpty]; done) | (simp [*]; exact q_gt _ _ (by assumption))), (by first | rfl | (simp; done) | (simp [*]; done) | (simp [*, q_isEmpty]; done) | (simp [*]; exact q_gt _ _ (by assumption))), H', ⟨Nat.le_refl _⟩, by repeat (first | exact Drawn0.refl _ | apply Drawn0.step)⟩
                    case round =>
                      clear H'
                      try clear c1
                      try clear p2
                      try clear c3
                      try clear c3b0
                      try clear c3b1
                      try clear c5
                      try clear c5b0
                      try clear c6
                      try clear c6b0
                      try clear c7
                      try clear c7b0
                      try clear c7b1
                      try clear c9
                      try clear c12
                      try clear c13
                      try clear c15
                      try clear c15b0
                      try clear c15b1
                      try clear p2
                      obtain ⟨x6_4, x7_4, rfl, rfl, HA, HK4, ⟨m4, rfl⟩⟩ := hrel
                      cases gk with
                      | zero => exact absurd HA.out (by simp [spec_Escape.l0])
                      | succ k4 =>
                        have H := HA.out
                        clear HA
                        simp only [spec_Escape.l0] at H
                        by_cases c16 : x7_4 < (a0.size : Int)
                        · rw [if_pos c16] at H
                          have c16b0 : decide (x7_4 < (a0.size : Int)) = true := decide_eq_true c16
                          clear c16
                          by_cases c17 : 0 ≤ x7_4
                          · rw [if_pos c17] at H
                            have c17b0 := eq_true c17
                            have c17b1 : decide (0 ≤ x7_4) = true := decide_eq_true c17
                            clear c17
                            by_cases c18 : x7_4 ≤ (a0.size : Int)
                            · rw [if_pos c18] at H
                              have c18b0 := eq_true c18
                              have c18b1 : decide (x7_4 ≤ (a0.size : Int)) = true := decide_eq_true c18
                              clear c18
                              replace H := Option.bind_eq_some_iff.mp H
                              obtain ⟨t171, A190, H⟩ := H
                              replace H : (if t171 = 1 then ((spec_fits.f (bt a0 x7_4) (x7_4 == 0)).bind fun t172 => (spec_Escape.j4 k4 a0 a1 x6_4 x7_4 t171 t172)) else (spec_Escape.j4 k4 a0 a1 x6_4 x7_4 t171 false)) = some (r1, r2) := H
                              have A19 := Aside0.mk A190
                              clear A190
                              have HC20 := Aside0.mk H
                              clear H
                              go_upto_region 13 with (first | ((with_reducible refine gate_callee (f := 33) rfl ?_); refine goesL_ (some 44) rfl rfl Tryd.func33 (by kernel_rfl) rfl #[.string (a0.extract (x7_4 : Int).toNat a0.size)] rfl (by (try simp only [List.map_toArray, List.map_cons, List.map_nil]); first | done | rfl | (simp only [List.length_drop, List.length_take]; rfl)) ?_; (with_reducible refine (spec_runeLen.calls k4 (a0.extract (x7_4 : Int).toNat a0.size) t171 _ A19.out).mono ?_); rintro e w' ⟨rfl, ⟨nd, rfl⟩⟩; refine ⟨_, rfl, ?_⟩))
                              (try simp only [Act.put, List.setIfInBounds_toArray, List.set_cons_zero, List.set_cons_succ])
                              go_cut [9] (fun v9 wc => ∃ (kq : Nat) (x9_19 : Bool), v9 = .bool x9_19 ∧ Aside0 (spec_Escape.j4 kq a0 a1 x6_4 x7_4 t171 x9_19 = some (r1, r2)) ∧ Aside0 (kq ≤ k4) ∧ Drawn0 w wc)
                              case first =>
                                have H := HC20.out
                                clear HC20
                                by_cases c21 : t171 = 1
                                · rw [if_pos c21] at H
                                  have c21b0 : (t171 == 1) = true := beq_iff_eq.mpr c21
                                  have c21b1 : (t171 != 1) = false := bne_eq_false_iff_eq.mpr c21
                                  clear c21
                                  (first | rw [c21b0] | (simp only [i64_w, i32_w]; rw [c21b0]) | skip)
                                  replace H := Option.bind_eq_some_iff.mp H
                                  obtain ⟨t172, A230, H⟩ := H
                                  replace H : (spec_Escape.j4 k4 a0 a1 x6_4 x7_4 t171 t172) = some (r1, r2) := H
                                  have A23 := Aside0.mk A230
                                  clear A230
                                  have H' := Aside0.mk H
                                  clear H
                                  have p22 : 0 ≤ (x7_4 : Int) := of_decide_eq_true (by first | (with_reducible assumption) | assumption)
                                  have q22 : x7_4 < (a0.size : Int) := of_decide_eq_true (by first | (with_reducible assumption) | assumption)
                                  have hx22 := bt_at a0 x7_4
                                  replace p22 := eq_true p22
                                  replace q22 := eq_true q22
                                  go_wp2_with (first | (go_at_call 34; (with_reducible refine (spec_fits.calls (bt a0 x7_4) (x7_4 == 0) t172 _ A23.out).mono ?_); rintro e w' ⟨rfl, ⟨nd, rfl⟩⟩))
                                  go_meet
                                  case rel => exact ⟨_, (t172), (by first | rfl | (simp; done) | (simp [*]; done) | (simp [*, q_isEmpty]; done) | (simp [*]; exact q_gt _ _ (by assumption))), H', ⟨by have := HJ3.out; have := HJ9.out; have := HJ13.out; have := HK4.out; first | omega | exact Nat.le_refl _⟩, by repeat (first | exact Drawn0.refl _ | apply Drawn0.step)⟩
                                · rw [if_neg c21] at H
                                  have c21b0 : (t171 == 1) = false := beq_eq_false_iff_ne.mpr c21
                                  have c21b1 : (t171 != 1) = true := bne_iff_ne.mpr c21
                                  (first | rw [c21b0] | (simp only [i64_w, i32_w]; rw [c21b0]) | skip)
                                  have H' := Aside0.mk H
                                  clear H
                                  go_wp2
                                  go_meet
                                  case rel => exact ⟨_, (false), (by first | rfl | (simp; done) | (simp [*]; done) | (simp [*, q_isEmpty]; done) | (simp [*]; exact q_gt _ _ (by assumption))), H', ⟨by have := HJ3.out; have := HJ9.out; have := HJ13.out; have := HK4.out; first | omega | exact Nat.le_refl _⟩, by repeat (first | exact Drawn0.refl _ | apply Drawn0.step)⟩
                              case rest =>
                                clear HC20
                                try clear c1
                                try clear c2
                                try clear p2
                                try clear q2
                                try clear hx2
                                try clear c3
                                try clear c3b0
                                try clear c3b1
                                try clear c5
                                try clear c5b0
                                try clear c6
                                try clear c6b0
                                try clear c7
                                try clear c7b0
                                try clear c7b1
                                try clear c9
                                try clear c12
                                try clear c13
                                try clear c15
                                try clear c15b0
                                try clear c15b1
                                try clear c16
                                try clear c16b0
                                try clear c17
                                try clear c17b0
                                try clear c17b1
                                try clear c18
                                try clear c18b0
                                try clear c18b1
                                try clear c21
                                try clear c21b0
                                try clear c21b1
                                try clear p22
                                try clear q22
                                try clear hx22
                                try clear p2
                                try clear p22
                                try clear q22
                                obtain ⟨kq, x9_19, rfl, HA, HJ19, ⟨mc19, rfl⟩⟩ := hcut
                                cases kq with
                                | zero => exact absurd HA.out (by simp [spec_Escape.j4])
                                | succ kj19 =>
                                  have H := HA.out
                                  clear HA
                                  simp only [spec_Escape.j4] at H
                                  have HC24 := Aside0.mk H
                                  clear H
                                  go_upto_region 15 with (fail)
                                  go_cut [65] (fun v65 wc => ∃ (kq : Nat) (x65_23 : Bool), v65 = .bool x65_23 ∧ Aside0 (spec_Escape.j5 kq a0 a1 x6_4 x7_4 t171 x9_19 x65_23 = some (r1, r2)) ∧ Aside0 (kq ≤ kj19) ∧ Drawn0 w wc)
                                  case first =>
                                    have H := HC24.out
                                    clear HC24
                                    by_cases c25 : x9_19 = true
                                    · subst c25
                                      have H1 : (if 0 ≤ x7_4 then (if x7_4 < (a0.size : Int) then (if (bt a0 x7_4) = 95 then (spec_Escape.j5 kj19 a0 a1 x6_4 x7_4 t171 true (a1 != 1)) else (spec_Escape.j5 kj19 a0 a1 x6_4 x7_4 t171 true false)) else (none)) else (none)) = some (r1, r2) := by rw [if_pos rfl] at H; exact H
                                      clear H
                                      have H := H1
                                      clear H1
                                      by_cases c26 : 0 ≤ x7_4
                                      · rw [if_pos c26] at H
                                        have c26b0 : decide (0 ≤ x7_4) = true := decide_eq_true c26
                                        clear c26
                                        (first | rw [c26b0] | (simp only [i64_w, i32_w]; rw [c26b0]) | skip)
                                        by_cases c27 : x7_4 < (a0.size : Int)
                                        · rw [if_pos c27] at H
                                          have c27b0 : decide (x7_4 < (a0.size : Int)) = true := decide_eq_true c27
                                          clear c27
                                          by_cases c29 : (bt a0 x7_4) = 95
                                          · rw [if_pos c29] at H
                                            have c29b0 : ((bt a0 x7_4) == 95) = true := beq_iff_eq.mpr c29
                                            have c29b1 : ((bt a0 x7_4) != 95) = false := bne_eq_false_iff_eq.mpr c29
                                            clear c29
                                            have H' := Aside0.mk H
                                            clear H
                                            have p28 : 0 ≤ (x7_4 : Int) := of_decide_eq_true (by first | (with_reducible assumption) | assumption)
                                            have q28 : x7_4 < (a0.size : Int) := of_decide_eq_true (by first | (with_reducible assumption) | assumption)
                                            have hx28 := bt_at a0 x7_4
                                            replace p28 := eq_true p28
                                            replace q28 := eq_true q28
                                            go_wp2
                                            go_meet
                                            case rel => exact ⟨_, ((a1 != 1)), (by first | rfl | (simp; done) | (simp [*]; done) | (simp [*, q_isEmpty]; done) | (simp [*]; exact q_gt _ _ (by assumption))), H', ⟨by have := HJ3.out; have := HJ9.out; have := HJ13.out; have := HK4.out; have := HJ19.out; first | omega | exact Nat.le_refl _⟩, by repeat (first | exact Drawn0.refl _ | apply Drawn0.step)⟩
                                          · rw [if_neg c29] at H
                                            have c29b0 : ((bt a0 x7_4) == 95) = false := beq_eq_false_iff_ne.mpr c29
                                            have c29b1 : ((bt a0 x7_4) != 95) = true := bne_iff_ne.mpr c29
                                            have H' := Aside0.mk H
                                            clear H
                                            have p28 : 0 ≤ (x7_4 : Int) := of_decide_eq_true (by first | (with_reducible assumption) | assumption)
                                            have q28 : x7_4 < (a0.size : Int) := of_decide_eq_true (by first | (with_reducible assumption) | assumption)
                                            have hx28 := bt_at a0 x7_4
                                            replace p28 := eq_true p28
                                            replace q28 := eq_true q28
                                            go_wp2
                                            go_meet
                                            case rel => exact ⟨_, (false), (by first | rfl | (simp; done) | (simp [*]; done) | (simp [*, q_isEmpty]; done) | (simp [*]; exact q_gt _ _ (by assumption))), H', ⟨by have := HJ3.out; have := HJ9.out; have := HJ13.out; have := HK4.out; have := HJ19.out; first | omega | exact Nat.le_refl _⟩, by repeat (first | exact Drawn0.refl _ | apply Drawn0.step)⟩
                                        · rw [if_neg c27] at H
                                          exact absurd H (by simp)
                                      · rw [if_neg c26] at H
                                        exact absurd H (by simp)
                                    · replace c25 := Bool.eq_false_iff.mpr c25
                                      subst c25
                                      have H1 : (spec_Escape.j5 kj19 a0 a1 x6_4 x7_4 t171 false false) = some (r1, r2) := by rw [if_neg (show ¬ (false = true) by decide)] at H; exact H
                                      clear H
                                      have H := H1
                                      clear H1
                                      have H' := Aside0.mk H
                                      clear H
                                      go_wp2
                                      go_meet
                                      case rel => exact ⟨_, (false), (by first | rfl | (simp; done) | (simp [*]; done) | (simp [*, q_isEmpty]; done) | (simp [*]; exact q_gt _ _ (by assumption))), H', ⟨by have := HJ3.out; have := HJ9.out; have := HJ13.out; have := HK4.out; have := HJ19.out; first | omega | exact Nat.le_refl _⟩, by repeat (first | exact Drawn0.refl _ | apply Drawn0.step)⟩
                                  case rest =>
                                    clear HC24
                                    try clear c1
                                    try clear c2
                                    try clear p2
                                    try clear q2
                                    try clear hx2
                                    try clear c3
                                    try clear c3b0
                                    try clear c3b1
                                    try clear c5
                                    try clear c5b0
                                    try clear c6
                                    try clear c6b0
                                    try clear c7
                                    try clear c7b0
                                    try clear c7b1
                                    try clear c9
                                    try clear c12
                                    try clear c13
                                    try clear c15
                                    try clear c15b0
                                    try clear c15b1
                                    try clear c16
                                    try clear c16b0
                                    try clear c17
                                    try clear c17b0
                                    try clear c17b1
                                    try clear c18
                                    try clear c18b0
                                    try clear c18b1
                                    try clear c19
                                    try clear c21
                                    try clear c21b0
                                    try clear c21b1
                                    try clear p22
                                    try clear q22
                                    try clear hx22
                                    try clear c25
                                    try clear c26
                                    try clear c26b0
                                    try clear c27
                                    try clear c27b0
                                    try clear p28
                                    try clear q28
                                    try clear hx28
                                    try clear c29
                                    try clear c29b0
                                    try clear c29b1
                                    try clear p2
                                    try clear p22
                                    try clear p28
                                    try clear q2
                                    try clear q22
                                    try clear q28
                                    obtain ⟨kq, x65_23, rfl, HA, HJ23, ⟨mc23, rfl⟩⟩ := hcut
                                    cases kq with
                                    | zero => exact absurd HA.out (by simp [spec_Escape.j5])
                                    | succ kj23 =>
                                      have H := HA.out
                                      clear HA
                                      simp only [spec_Escape.j5] at H
                                      by_cases c30 : x65_23 = true
                                      · subst c30
                                        have H1 : (if x6_4.size + 2 ≤ 9223372036854775807 then (spec_Escape.l0 kj23 a0 a1 (x6_4 ++ (⟨#[95, 95]⟩ : ByteArray)) (wrap64 (x7_4 + t171))) else (none)) = some (r1, r2) := by rw [if_pos rfl] at H; exact H
                                        clear H
                                        have H := H1
                                        clear H1
                                        by_cases c31 : x6_4.size + 2 ≤ 9223372036854775807
                                        · rw [if_pos c31] at H
                                          have c31b0 := eq_true c31
                                          have c31b1 : decide (x6_4.size + 2 ≤ 9223372036854775807) = true := decide_eq_true c31
                                          try have c31b2 : (9223372036854775807 < x6_4.size + 2) = False := eq_false (Nat.not_lt.2 c31)
                                          have H' := Aside0.mk H
                                          clear H
                                          go_wp2
                                          go_roundg kj23
                                          case measure => have := HJ3.out; have := HJ9.out; have := HJ13.out; have := HK4.out; have := HJ19.out; have := HJ23.out; omega
                                          case rel => exact ⟨(x6_4 ++ (⟨#[95, 95]⟩ : ByteArray)), (wrap64 (x7_4 + t171)), (by first | rfl | (simp; done) | (simp [*]; done) | (simp [*, q_isEmpty]; done) | (simp [*]; exact q_gt _ _ (by assumption))), (by first | rfl | (simp; done) | (simp [*]; done) | (simp [*, q_isEmpty]; done) | (simp [*]; exact q_gt _ _ (by assumption))), H', ⟨by have := HJ3.out; have := HJ9.out; have := HJ13.out; have := HK4.out; have := HJ19.out; have := HJ23.out; omega⟩, by repeat (first | exact Drawn0.refl _ | apply Drawn0.step)⟩
                                        · rw [if_neg c31] at H
                                          exact absurd H (by simp)
                                      · replace c30 := Bool.eq_false_iff.mpr c30
                                        subst c30
                                        have H1 : (if x9_19 = true then (if 0 ≤ x7_4 then (if x7_4 ≤ (wrap64 (x7_4 + 1)) then (if (wrap64 (x7_4 + 1)) ≤ (a0.size : Int) then (if x6_4.size + (a0.extract (x7_4 : Int).toNat ((wrap64 (x7_4 + 1)) : Int).toNat).size ≤ 9223372036854775807 then (spec_Escape.l0 kj23 a0 a1 (x6_4 ++ (a0.extract (x7_4 : Int).toNat ((wrap64 (x7_4 + 1)) : Int).toNat)) (wrap64 (x7_4 + t171))) else (none)) else (none)) else (none)) else (none)) else (if a1 = 1 then (if x6_4.size + 1 ≤ 9223372036854775807 then (spec_Escape.l0 kj23 a0 a1 (x6_4 ++ (⟨#[95]⟩ : ByteArray)) (wrap64 (x7_4 + t171))) else (none)) else (if a1 = 2 then (if 0 ≤ x7_4 then (if x7_4 < (a0.size : Int) then (spec_Escape.j6 kj23 a0 a1 x6_4 x7_4 t171 ((bt a0 x7_4) == 46)) else (none)) else (none)) else (spec_Escape.j6 kj23 a0 a1 x6_4 x7_4 t171 false)))) = some (r1, r2) := by rw [if_neg (show ¬ (false = true) by decide)] at H; exact H
                                        clear H
                                        have H := H1
                                        clear H1
                                        by_cases c32 : x9_19 = true
                                        · subst c32
                                          have H1 : (if 0 ≤ x7_4 then (if x7_4 ≤ (wrap64 (x7_4 + 1)) then (if (wrap64 (x7_4 + 1)) ≤ (a0.size : Int) then (if x6_4.size + (a0.extract (x7_4 : Int).toNat ((wrap64 (x7_4 + 1)) : Int).toNat).size ≤ 9223372036854775807 then (spec_Escape.l0 kj23 a0 a1 (x6_4 ++ (a0.extract (x7_4 : Int).toNat ((wrap64 (x7_4 + 1)) : Int).toNat)) (wrap64 (x7_4 + t171))) else (none)) else (none)) else (none)) else (none)) = some (r1, r2) := by rw [if_pos rfl] at H; exact H
                                          clear H
                                          have H := H1
                                          clear H1
                                          by_cases c33 : 0 ≤ x7_4
                                          · rw [if_pos c33] at H
                                            have c33b0 := eq_true c33
                                            have c33b1 : decide (0 ≤ x7_4) = true := decide_eq_true c33
                                            clear c33
                                            by_cases c34 : x7_4 ≤ (wrap64 (x7_4 + 1))
                                            · rw [if_pos c34] at H
                                              have c34b0 := eq_true c34
                                              have c34b1 : decide (x7_4 ≤ (wrap64 (x7_4 + 1))) = true := decide_eq_true c34
                                              by_cases c35 : (wrap64 (x7_4 + 1)) ≤ (a0.size : Int)
                                              · rw [if_pos c35] at H
                                                have c35b0 := eq_true c35
                                                have c35b1 : decide ((wrap64 (x7_4 + 1)) ≤ (a0.size : Int)) = true := decide_eq_true c35
                                                by_cases c36 : x6_4.size + (a0.extract (x7_4 : Int).toNat ((wrap64 (x7_4 + 1)) : Int).toNat).size ≤ 9223372036854775807
                                                · rw [if_pos c36] at H
                                                  have c36b0 := eq_true c36
                                                  have c36b1 : decide (x6_4.size + (a0.extract (x7_4 : Int).toNat ((wrap64 (x7_4 + 1)) : Int).toNat).size ≤ 9223372036854775807) = true := decide_eq_true c36
                                                  try have c36b2 : (9223372036854775807 < x6_4.size + (a0.extract (x7_4 : Int).toNat ((wrap64 (x7_4 + 1)) : Int).toNat).size) = False := eq_false (Nat.not_lt.2 c36)
                                                  have H' := Aside0.mk H
                                                  clear H
                                                  go_wp2
                                                  go_roundg kj23
                                                  case measure => have := HJ3.out; have := HJ9.out; have := HJ13.out; have := HK4.out; have := HJ19.out; have := HJ23.out; omega
                                                  case rel => exact ⟨(x6_4 ++ (a0.extract (x7_4 : Int).toNat ((wrap64 (x7_4 + 1)) : Int).toNat)), (wrap64 (x7_4 + t171)), (by first | rfl | (simp; done) | (simp [*]; done) | (simp [*, q_isEmpty]; done) | (simp [*]; exact q_gt _ _ (by assumption))), (by first | rfl | (simp; done) | (simp [*]; done) | (simp [*, q_isEmpty]; done) | (simp [*]; exact q_gt _ _ (by assumption))), H', ⟨by have := HJ3.out; have := HJ9.out; have := HJ13.out; have := HK4.out; have := HJ19.out; have := HJ23.out; omega⟩, by repeat (first | exact Drawn0.refl _ | apply Drawn0.step)⟩
                                                · rw [if_neg c36] at H
                                                  exact absurd H (by simp)
                                              · rw [if_neg c35] at H
                                                exact absurd H (by simp)
                                            · rw [if_neg c34] at H
                                              exact absurd H (by simp)
                                          · rw [if_neg c33] at H
                                            exact absurd H (by simp)
                                        · replace c32 := Bool.eq_false_iff.mpr c32
                                          subst c32
                                          have H1 : (if a1 = 1 then (if x6_4.size + 1 ≤ 9223372036854775807 then (spec_Escape.l0 kj23 a0 a1 (x6_4 ++ (⟨#[95]⟩ : ByteArray)) (wrap64 (x7_4 + t171))) else (none)) else (if a1 = 2 then (if 0 ≤ x7_4 then (if x7_4 < (a0.size : Int) then (spec_Escape.j6 kj23 a0 a1 x6_4 x7_4 t171 ((bt a0 x7_4) == 46)) else (none)) else (none)) else (spec_Escape.j6 kj23 a0 a1 x6_4 x7_4 t171 false))) = some (r1, r2) := by rw [if_neg (show ¬ (false = true) by decide)] at H; exact H
                                          clear H
                                          have H := H1
                                          clear H1
                                          by_cases c37 : a1 = 1
                                          · rw [if_pos c37] at H
                                            have c37b0 : (a1 == 1) = true := beq_iff_eq.mpr c37
                                            have c37b1 : (a1 != 1) = false := bne_eq_false_iff_eq.mpr c37
                                            clear c37
                                            by_cases c38 : x6_4.size + 1 ≤ 9223372036854775807
                                            · rw [if_pos c38] at H
                                              have c38b0 := eq_true c38
                                              have c38b1 : decide (x6_4.size + 1 ≤ 9223372036854775807) = true := decide_eq_true c38
                                              try have c38b2 : (9223372036854775807 < x6_4.size + 1) = False := eq_false (Nat.not_lt.2 c38)
                                              have H' := Aside0.mk H
                                              clear H
                                              go_wp2
                                              go_roundg kj23
                                              case measure => have := HJ3.out; have := HJ9.out; have := HJ13.out; have := HK4.out; have := HJ19.out; have := HJ23.out; omega
                                              case rel => exact ⟨(x6_4 ++ (⟨#[95]⟩ : ByteArray)), (wrap64 (x7_4 + t171)), (by first | rfl | (simp; done) | (simp [*]; done) | (simp [*, q_isEmpty]; done) | (simp [*]; exact q_gt _ _ (by assumption))), (by first | rfl | (simp; done) | (simp [*]; done) | (simp [*, q_isEmpty]; done) | (simp [*]; exact q_gt _ _ (by assumption))), H', ⟨by have := HJ3.out; have := HJ9.out; have := HJ13.out; have := HK4.out; have := HJ19.out; have := HJ23.out; omega⟩, by repeat (first | exact Drawn0.refl _ | apply Drawn0.step)⟩
                                            · rw [if_neg c38] at H
                                              exact absurd H (by simp)
                                          · rw [if_neg c37] at H
                                            have c37b0 : (a1 == 1) = false := beq_eq_false_iff_ne.mpr c37
                                            have c37b1 : (a1 != 1) = true := bne_iff_ne.mpr c37
                                            have HC39 := Aside0.mk H
                                            clear H
                                            go_upto_region 21 with (fail)
                                            go_cut [93] (fun v93 wc => ∃ (kq : Nat) (x93_38 : Bool), v93 = .bool x93_38 ∧ Aside0 (spec_Escape.j6 kq a0 a1 x6_4 x7_4 t171 x93_38 = some (r1, r2)) ∧ Aside0 (kq ≤ kj23) ∧ Drawn0 w wc)
                                            case first =>
                                              have H := HC39.out
                                              clear HC39
                                              by_cases c40 : a1 = 2
                                              · rw [if_pos c40] at H
                                                have c40b0 : (a1 == 2) = true := beq_iff_eq.mpr c40
                                                have c40b1 : (a1 != 2) = false := bne_eq_false_iff_eq.mpr c40
                                                clear c40
                                                (first | rw [c40b0] | (simp only [i64_w, i32_w]; rw [c40b0]) | skip)
                                                by_cases c41 : 0 ≤ x7_4
                                                · rw [if_pos c41] at H
                                                  have c41b0 : decide (0 ≤ x7_4) = true := decide_eq_true c41
                                                  clear c41
                                                  by_cases c42 : x7_4 < (a0.size : Int)
                                                  · rw [if_pos c42] at H
                                                    have c42b0 : decide (x7_4 < (a0.size : Int)) = true := decide_eq_true c42
                                                    clear c42
                                                    have H' := Aside0.mk H
                                                    clear H
                                                    have p43 : 0 ≤ (x7_4 : Int) := of_decide_eq_true (by first | (with_reducible assumption) | assumption)
                                                    have q43 : x7_4 < (a0.size : Int) := of_decide_eq_true (by first | (with_reducible assumption) | assumption)
                                                    have hx43 := bt_at a0 x7_4
                                                    replace p43 := eq_true p43
                                                    replace q43 := eq_true q43
                                                    go_wp2
                                                    go_meet
                                                    case rel => exact ⟨_, (((bt a0 x7_4) == 46)), (by first | rfl | (simp; done) | (simp [*]; done) | (simp [*, q_isEmpty]; done) | (simp [*]; exact q_gt _ _ (by assumption))), H', ⟨by have := HJ3.out; have := HJ9.out; have := HJ13.out; have := HK4.out; have := HJ19.out; have := HJ23.out; first | omega | exact Nat.le_refl _⟩, by repeat (first | exact Drawn0.refl _ | apply Drawn0.step)⟩
                                                  · rw [if_neg c42] at H
                                                    exact absurd H (by simp)
                                                · rw [if_neg c41] at H
                                                  exact absurd H (by simp)
                                              · rw [if_neg c40] at H
                                                have c40b0 : (a1 == 2) = false := beq_eq_false_iff_ne.mpr c40
                                                have c40b1 : (a1 != 2) = true := bne_iff_ne.mpr c40
                                                (first | rw [c40b0] | (simp only [i64_w, i32_w]; rw [c40b0]) | skip)
                                                have H' := Aside0.mk H
                                                clear H
                                                go_wp2
                                                go_meet
                                                case rel => exact ⟨_, (false), (by first | rfl | (simp; done) | (simp [*]; done) | (simp [*, q_isEmpty]; done) | (simp [*]; exact q_gt _ _ (by assumption))), H', ⟨by have := HJ3.out; have := HJ9.out; have := HJ13.out; have := HK4.out; have := HJ19.out; have := HJ23.out; first | omega | exact Nat.le_refl _⟩, by repeat (first | exact Drawn0.refl _ | apply Drawn0.step)⟩
                                            case rest =>
                                              clear HC39
                                              try clear c1
                                              try clear c2
                                              try clear p2
                                              try clear q2
                                              try clear hx2
                                              try clear c3
                                              try clear c3b0
                                              try clear c3b1
                                              try clear c4
                                              try clear p4
                                              try clear q4
                                              try clear hx4
                                              try clear c5
                                              try clear c5b0
                                              try clear c6
                                              try clear c6b0
                                              try clear p6
                                              try clear c7
                                              try clear c7b0
                                              try clear c7b1
                                              try clear c9
                                              try clear c12
                                              try clear c13
                                              try clear c15
                                              try clear c15b0
                                              try clear c15b1
                                              try clear c16
                                              try clear c16b0
                                              try clear c17
                                              try clear c17b0
                                              try clear c17b1
                                              try clear c18
                                              try clear c18b0
                                              try clear c18b1
                                              try clear c19
                                              try clear c21
                                              try clear c21b0
                                              try clear c21b1
                                              try clear p22
                                              try clear q22
                                              try clear hx22
                                              try clear c23
                                              try clear c25
                                              try clear c26
                                              try clear c26b0
                                              try clear c27
                                              try clear c27b0
                                              try clear p28
                                              try clear q28
                                              try clear hx28
                                              try clear c29
                                              try clear c29b0
                                              try clear c29b1
                                              try clear c30
                                              try clear c31
                                              try clear c31b0
                                              try clear c31b1
                                              try clear c31b2
                                              try clear c32
                                              try clear c33
                                              try clear c33b0
                                              try clear c33b1
                                              try clear c34
                                              try clear c34b0
                                              try clear c34b1
                                              try clear c35
                                              try clear c35b0
                                              try clear c35b1
                                              try clear c36
                                              try clear c36b0
                                              try clear c36b1
                                              try clear c36b2
                                              try clear c37
                                              try clear c37b0
                                              try clear c37b1
                                              try clear c38
                                              try clear c38b0
                                              try clear c38b1
                                              try clear c38b2
                                              try clear c40
                                              try clear c40b0
                                              try clear c40b1
                                              try clear c41
                                              try clear c41b0
                                              try clear c42
                                              try clear c42b0
                                              try clear p43
                                              try clear q43
                                              try clear hx43
                                              try clear p2
                                              try clear p22
                                              try clear p28
                                              try clear p43
                                              try clear q2
                                              try clear q22
                                              try clear q28
                                              try clear q43
                                              obtain ⟨kq, x93_38, rfl, HA, HJ38, ⟨mc38, rfl⟩⟩ := hcut
                                              cases kq with
                                              | zero => exact absurd HA.out (by simp [spec_Escape.j6])
                                              | succ kj38 =>
                                                have H := HA.out
                                                clear HA
                                                simp only [spec_Escape.j6] at H
                                                by_cases c44 : x93_38 = true
                                                · subst c44
                                                  have H1 : (if x6_4.size + 5 ≤ 9223372036854775807 then (spec_Escape.l0 kj38 a0 a1 (x6_4 ++ (⟨#[95, 100, 111, 116, 95]⟩ : ByteArray)) (wrap64 (x7_4 + t171))) else (none)) = some (r1, r2) := by rw [if_pos rfl] at H; exact H
                                                  clear H
                                                  have H := H1
                                                  clear H1
                                                  by_cases c45 : x6_4.size + 5 ≤ 9223372036854775807
                                                  · rw [if_pos c45] at H
                                                    have c45b0 := eq_true c45
                                                    have c45b1 : decide (x6_4.size + 5 ≤ 9223372036854775807) = true := decide_eq_true c45
                                                    try have c45b2 : (9223372036854775807 < x6_4.size + 5) = False := eq_false (Nat.not_lt.2 c45)
                                                    have H' := Aside0.mk H
                                                    clear H
                                                    go_wp2
                                                    go_roundg kj38
                                                    case measure => have := HJ3.out; have := HJ9.out; have := HJ13.out; have := HK4.out; have := HJ19.out; have := HJ23.out; have := HJ38.out; omega
                                                    case rel => exact ⟨(x6_4 ++ (⟨#[95, 100, 111, 116, 95]⟩ : ByteArray)), (wrap64 (x7_4 + t171)), (by first | rfl | (simp; done) | (simp [*]; done) | (simp [*, q_isEmpty]; done) | (simp [*]; exact q_gt _ _ (by assumption))), (by first | rfl | (simp; done) | (simp [*]; done) | (simp [*, q_isEmpty]; done) | (simp [*]; exact q_gt _ _ (by assumption))), H', ⟨by have := HJ3.out; have := HJ9.out; have := HJ13.out; have := HK4.out; have := HJ19.out; have := HJ23.out; have := HJ38.out; omega⟩, by repeat (first | exact Drawn0.refl _ | apply Drawn0.step)⟩
                                                  · rw [if_neg c45] at H
                                                    exact absurd H (by simp)
                                                · replace c44 := Bool.eq_false_iff.mpr c44
                                                  subst c44
                                                  have H1 : (if a1 = 2 then (some ((⟨#[]⟩ : ByteArray), 2)) else (if 0 ≤ x7_4 then (if x7_4 ≤ (a0.size : Int) then ((spec_point.f (a0.extract (x7_4 : Int).toNat a0.size) t171).bind fun t173 => ((spec_hexadecimal.f kj38 t173).bind fun t174 => (if 1 + t174.size ≤ 9223372036854775807 then (if ((⟨#[95]⟩ : ByteArray) ++ t174).size + 1 ≤ 9223372036854775807 then (if x6_4.size + (((⟨#[95]⟩ : ByteArray) ++ t174) ++ (⟨#[95]⟩ : ByteArray)).size ≤ 9223372036854775807 then (spec_Escape.l0 kj38 a0 a1 (x6_4 ++ (((⟨#[95]⟩ : ByteArray) ++ t174) ++ (⟨#[95]⟩ : ByteArray))) (wrap64 (x7_4 + t171))) else (none)) else (none)) else (none)))) else (none)) else (none))) = some (r1, r2) := by rw [if_neg (show ¬ (false = true) by decide)] at H; exact H
                                                  clear H
                                                  have H := H1
                                                  clear H1
                                                  by_cases c46 : a1 = 2
                                                  · rw [if_pos c46] at H
                                                    have c46b0 : (a1 == 2) = true := beq_iff_eq.mpr c46
                                                    have c46b1 : (a1 != 2) = false := bne_eq_false_iff_eq.mpr c46
                                                    clear c46
                                                    simp only [Option.some.injEq, Prod.mk.injEq] at H
                                                    obtain ⟨rfl, rfl⟩ := H
                                                    go_wp2
                                                    go_ret2
                                                    exact ⟨by first | rfl | (simp; done) | (simp [*]; done) | (simp [*, q_isEmpty]; done) | (simp [*]; exact q_gt _ _ (by assumption)), by repeat (first | exact Drawn0.refl _ | apply Drawn0.step)⟩
                                                  · rw [if_neg c46] at H
                                                    have c46b0 : (a1 == 2) = false := beq_eq_false_iff_ne.mpr c46
                                                    have c46b1 : (a1 != 2) = true := bne_iff_ne.mpr c46
                                                    by_cases c47 : 0 ≤ x7_4
                                                    · rw [if_pos c47] at H
                                                      have c47b0 := eq_true c47
                                                      have c47b1 : decide (0 ≤ x7_4) = true := decide_eq_true c47
                                                      clear c47
                                                      by_cases c48 : x7_4 ≤ (a0.size : Int)
                                                      · rw [if_pos c48] at H
                                                        have c48b0 := eq_true c48
                                                        have c48b1 : decide (x7_4 ≤ (a0.size : Int)) = true := decide_eq_true c48
                                                        clear c48
                                                        replace H := Option.bind_eq_some_iff.mp H
                                                        obtain ⟨t173, A490, H⟩ := H
                                                        replace H : ((spec_hexadecimal.f kj38 t173).bind fun t174 => (if 1 + t174.size ≤ 9223372036854775807 then (if ((⟨#[95]⟩ : ByteArray) ++ t174).size + 1 ≤ 9223372036854775807 then (if x6_4.size + (((⟨#[95]⟩ : ByteArray) ++ t174) ++ (⟨#[95]⟩ : ByteArray)).size ≤ 9223372036854775807 then (spec_Escape.l0 kj38 a0 a1 (x6_4 ++ (((⟨#[95]⟩ : ByteArray) ++ t174) ++ (⟨#[95]⟩ : ByteArray))) (wrap64 (x7_4 + t171))) else (none)) else (none)) else (none))) = some (r1, r2) := H
                                                        have A49 := Aside0.mk A490
                                                        clear A490
                                                        replace H := Option.bind_eq_some_iff.mp H
                                                        obtain ⟨t174, A500, H⟩ := H
                                                        replace H : (if 1 + t174.size ≤ 9223372036854775807 then (if ((⟨#[95]⟩ : ByteArray) ++ t174).size + 1 ≤ 9223372036854775807 then (if x6_4.size + (((⟨#[95]⟩ : ByteArray) ++ t174) ++ (⟨#[95]⟩ : ByteArray)).size ≤ 9223372036854775807 then (spec_Escape.l0 kj38 a0 a1 (x6_4 ++ (((⟨#[95]⟩ : ByteArray) ++ t174) ++ (⟨#[95]⟩ : ByteArray))) (wrap64 (x7_4 + t171))) else (none)) else (none)) else (none)) = some (r1, r2) := H
                                                        have A50 := Aside0.mk A500
                                                        clear A500
                                                        by_cases c51 : 1 + t174.size ≤ 9223372036854775807
                                                        · rw [if_pos c51] at H
                                                          have c51b0 := eq_true c51
                                                          have c51b1 : decide (1 + t174.size ≤ 9223372036854775807) = true := decide_eq_true c51
                                                          try have c51b2 : (9223372036854775807 < 1 + t174.size) = False := eq_false (Nat.not_lt.2 c51)
                                                          by_cases c52 : ((⟨#[95]⟩ : ByteArray) ++ t174).size + 1 ≤ 9223372036854775807
                                                          · rw [if_pos c52] at H
                                                            have c52b0 := eq_true c52
                                                            have c52b1 : decide (((⟨#[95]⟩ : ByteArray) ++ t174).size + 1 ≤ 9223372036854775807) = true := decide_eq_true c52
                                                            try have c52b2 : (9223372036854775807 < ((⟨#[95]⟩ : ByteArray) ++ t174).size + 1) = False := eq_false (Nat.not_lt.2 c52)
                                                            try have c52b3 : (9223372036854775807 < 1 + t174.size + 1) = False := eq_false (by have z := Nat.not_lt.2 c52; (repeat rw [ByteArray.size_append] at z); exact z)
                                                            by_cases c53 : x6_4.size + (((⟨#[95]⟩ : ByteArray) ++ t174) ++ (⟨#[95]⟩ : ByteArray)).size ≤ 9223372036854775807
                                                            · rw [if_pos c53] at H
                                                              have c53b0 := eq_true c53
                                                              have c53b1 : decide (x6_4.size + (((⟨#[95]⟩ : ByteArray) ++ t174) ++ (⟨#[95]⟩ : ByteArray)).size ≤ 9223372036854775807) = true := decide_eq_true c53
                                                              try have c53b2 : (9223372036854775807 < x6_4.size + (((⟨#[95]⟩ : ByteArray) ++ t174) ++ (⟨#[95]⟩ : ByteArray)).size) = False := eq_false (Nat.not_lt.2 c53)
                                                              try have c53b3 : (9223372036854775807 < x6_4.size + 1 + t174.size + 1) = False := eq_false (by have z := Nat.not_lt.2 c53; (repeat rw [ByteArray.size_append] at z); exact z)
                                                              have H' := Aside0.mk H
                                                              clear H
                                                              go_wp2_with (first | ((with_reducible refine gate_callee (f := 36) rfl ?_); refine goesL_ (some 60) rfl rfl Tryd.func36 (by kernel_rfl) rfl #[.string (a0.extract (x7_4 : Int).toNat a0.size), .int .i64 t171] rfl (by (try simp only [List.map_toArray, List.map_cons, List.map_nil]); first | done | rfl | (simp only [List.length_drop, List.length_take]; rfl)) ?_; (with_reducible refine (spec_point.calls (a0.extract (x7_4 : Int).toNat a0.size) t171 t173 _ A49.out).mono ?_); rintro e w' ⟨rfl, ⟨nd, rfl⟩⟩; refine ⟨_, rfl, ?_⟩) | ((with_reducible refine gate_callee (f := 35) rfl ?_); refine goesL_ (some 61) rfl rfl Tryd.func35 (by kernel_rfl) rfl #[.int .i64 t173] rfl (by (try simp only [List.map_toArray, List.map_cons, List.map_nil]); first | done | rfl | (simp only [List.length_drop, List.length_take]; rfl)) ?_; (with_reducible refine (spec_hexadecimal.calls kj38 t173 t174 _ A50.out).mono ?_); rintro e w' ⟨rfl, ⟨nd, rfl⟩⟩; refine ⟨_, rfl, ?_⟩))
                                                              go_roundg kj38
                                                              case measure => have := HJ3.out; have := HJ9.out; have := HJ13.out; have := HK4.out; have := HJ19.out; have := HJ23.out; have := HJ38.out; omega
                                                              case rel => exact ⟨(x6_4 ++ (((⟨#[95]⟩ : ByteArray) ++ t174) ++ (⟨#[95]⟩ : ByteArray))), (wrap64 (x7_4 + t171)), (by first | rfl | (simp; done) | (simp [*]; done) | (simp [*, q_isEmpty]; done) | (simp [*]; exact q_gt _ _ (by assumption))), (by first | rfl | (simp; done) | (simp [*]; done) | (simp [*, q_isEmpty]; done) | (simp [*]; exact q_gt _ _ (by assumption))), H', ⟨by have := HJ3.out; have := HJ9.out; have := HJ13.out; have := HK4.out; have := HJ19.out; have := HJ23.out; have := HJ38.out; omega⟩, by repeat (first | exact Drawn0.refl _ | apply Drawn0.step)⟩
                                                            · rw [if_neg c53] at H
                                                              exact absurd H (by simp)
                                                          · rw [if_neg c52] at H
                                                            exact absurd H (by simp)
                                                        · rw [if_neg c51] at H
                                                          exact absurd H (by simp)
                                                      · rw [if_neg c48] at H
                                                        exact absurd H (by simp)
                                                    · rw [if_neg c47] at H
                                                      exact absurd H (by simp)
                            · rw [if_neg c18] at H
                              exact absurd H (by simp)
                          · rw [if_neg c17] at H
                            exact absurd H (by simp)
                        · rw [if_neg c16] at H
                          have c16b0 : decide (x7_4 < (a0.size : Int)) = false := decide_eq_false c16
                          clear c16
                          simp only [Option.some.injEq, Prod.mk.injEq] at H
                          obtain ⟨rfl, rfl⟩ := H
                          go_wp2
                          go_ret2
                          exact ⟨by first | rfl | (simp; done) | (simp [*]; done) | (simp [*, q_isEmpty]; done) | (simp [*]; exact q_gt _ _ (by assumption)), by repeat (first | exact Drawn0.refl _ | apply Drawn0.step)⟩

end Go.Proofs.YtkbaihcamimnjaaDoor.Q
