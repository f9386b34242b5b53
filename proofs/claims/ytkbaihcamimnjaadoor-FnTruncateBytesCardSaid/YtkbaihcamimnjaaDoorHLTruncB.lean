/- The law FnTruncateBytes, walked: it returns true at every text and size. Condition: the two tables of unicode/utf8 as the library lays them. -/
import Derived.Test.YtkbaihcamimnjaaDoorUTrunc
import Derived.Test.YtkbaihcamimnjaaDoorHValid
import Derived.Test.YtkbaihcamimnjaaDoorQlawslong
set_option linter.unusedVariables false
set_option linter.unusedSimpArgs false
namespace Go.Proofs.YtkbaihcamimnjaaDoor.Q
open Go.RowKit Go.Lib Go.Proofs.YtkbaihcamimnjaaDoorW.PrintWords Go.Proofs.YtkbaihcamimnjaaDoorW.PrintLast Go.Proofs.YtkbaihcamimnjaaDoorW.PrintMore
attribute [local go_sem] max2_int min2_int max_two min_two max_three min_three max_four min_four
theorem bytes_calls (s : ByteArray) (w : World) : Calls Tryd.prog 23 #[.string s] w fun e w' => e = .returned (.int .i64 (s.size : Int)) ∧ w' = w := by
  go_enter Tryd.func23, Tryd.ntmps23
  go_wp2
  go_ret
  exact ⟨rfl, rfl⟩
theorem cut_calls (s : ByteArray) (n : Nat) (w : World) :
    Calls Tryd.prog 22 #[.string s, .int .i64 (n : Int), .string (cutB s n).1, .bool (cutB s n).2, .func (.func 23) #[] #[]] w fun e w' => e = .returned (.bool true) ∧ w' = w := by
  by_cases h : s.size ≤ n
  · have h1 : ((s.size : Int) ≤ (n : Int)) = True := eq_true (by omega)
    rw [cutB_of s n h]
    go_enter Tryd.func22, Tryd.ntmps22
    go_wp2_with (go_at_call 23; refine (bytes_calls _ _).mono ?_; rintro e w' ⟨rfl, rfl⟩)
    go_ret
    exact ⟨by simp, rfl⟩
  · have h1 : ((s.size : Int) ≤ (n : Int)) = False := eq_false (by omega)
    have hf := cutB_fits s n
    have hc : (cutB s n).2 = true := by unfold cutB; rw [if_neg h]; repeat' split
                                        all_goals rfl
    rw [hc]
    generalize (cutB s n).1 = t at *
    have h2 : ((t.size : Int) ≤ (n : Int)) = True := eq_true (by omega)
    clear hf hc
    go_enter Tryd.func22, Tryd.ntmps22
    go_wp2_with (go_at_call 23; refine (bytes_calls _ _).mono ?_; rintro e w' ⟨rfl, rfl⟩)
    go_ret
    exact ⟨by simp, rfl⟩
theorem abc_calls (w : World) : Calls Tryd.prog 21 #[.string ⟨#[97, 98, 99]⟩, .int .i64 3] w fun e w' => e = .returned (.tuple #[.string ⟨#[97, 98, 99]⟩, .bool false]) ∧ Below w.heap.size w w' :=
  impl_TruncateBytes.calls _ _ _ _ _ (by
    have := truncB_is ⟨#[97, 98, 99]⟩ 3 (by decide) (by decide) (.inl (by decide))
    rw [cutB_of _ _ (by decide)] at this
    exact this)
set_option maxRecDepth 100000 in
set_option maxHeartbeats 2000000 in
theorem truncLaw_calls (s : ByteArray) (n : Int) (w : World) (tb : TBu w) :
    Calls Tryd.prog 8 #[.string s, .int .i64 n] w fun e w' => e = .returned (.bool true) ∧ Below w.heap.size w w' := by
  have HT := Aside0.mk tb
  have HB := Aside0.mk (Below.refl w.heap.size w)
  clear tb
  by_cases h1 : 2147483647 < (s.size : Int)
  · have e1 := eq_true h1
    go_enter Tryd.func8, Tryd.ntmps8
    go_wp2
    go_ret
    exact ⟨rfl, HB.out⟩
  have e1 := eq_false h1
  have hlong : laws_long.f s = some (decide ((s.size : Int) > 65536)) := rfl
  by_cases h2 : (s.size : Int) > 65536
  · rw [decide_eq_true h2] at hlong
    have HL := Aside0.mk hlong
    clear hlong
    go_enter Tryd.func8, Tryd.ntmps8
    go_wp2_with (first | (go_at_call 19; refine (laws_long.calls s true _ HL.out).mono ?_; rintro e w1 ⟨rfl, hd⟩; have HB1 := Aside0.mk (HB.out.trans hd.below); clear hd) | (go_at_call 21; refine (abc_calls _).mono ?_; rintro e w2 ⟨rfl, hb⟩; have HB2 := Aside0.mk (HB1.out.trans (hb.mono HB1.out.size)); clear hb))
    go_ret
    exact ⟨by simp, HB2.out⟩
  rw [decide_eq_false h2] at hlong
  have HL := Aside0.mk hlong
  clear hlong
  by_cases h3 : n < 0
  · have e3 : decide (n < 0) = true := decide_eq_true h3
    go_enter Tryd.func8, Tryd.ntmps8
    go_wp2_with (first | (go_at_call 19; refine (laws_long.calls s false _ HL.out).mono ?_; rintro e w1 ⟨rfl, hd⟩; have HB1 := Aside0.mk (HB.out.trans hd.below); clear hd) | (go_at_call 21; refine (abc_calls _).mono ?_; rintro e w2 ⟨rfl, hb⟩; have HB2 := Aside0.mk (HB1.out.trans (hb.mono HB1.out.size)); clear hb))
    go_ret
    exact ⟨by simp, HB2.out⟩
  have e3 : decide (n < 0) = false := decide_eq_false h3
  by_cases h4 : 1048576 < n
  · have e4 : decide (1048576 < n) = true := decide_eq_true h4
    go_enter Tryd.func8, Tryd.ntmps8
    go_wp2_with (first | (go_at_call 19; refine (laws_long.calls s false _ HL.out).mono ?_; rintro e w1 ⟨rfl, hd⟩; have HB1 := Aside0.mk (HB.out.trans hd.below); clear hd) | (go_at_call 21; refine (abc_calls _).mono ?_; rintro e w2 ⟨rfl, hb⟩; have HB2 := Aside0.mk (HB1.out.trans (hb.mono HB1.out.size)); clear hb))
    go_ret
    exact ⟨by simp, HB2.out⟩
  have e4 : decide (1048576 < n) = false := decide_eq_false h4
  obtain ⟨n, rfl⟩ : ∃ m : Nat, n = m := ⟨n.toNat, by omega⟩
  have hvs : utf8_ValidString.f s = some (Lib.validD s.data.toList) := by unfold utf8_ValidString.f; rw [if_pos (by omega)]
  cases hv : Lib.validD s.data.toList
  · rw [hv] at hvs
    have HV := Aside0.mk hvs
    clear hvs hv
    go_enter Tryd.func8, Tryd.ntmps8
    go_wp2_with (first | (go_at_call 19; refine (laws_long.calls s false _ HL.out).mono ?_; rintro e w1 ⟨rfl, hd⟩; have HB1 := Aside0.mk (HB.out.trans hd.below); clear hd) | (go_at_call 15; refine (utf8_ValidString.calls s false _ (TBu.below HT.out HB1.out) HV.out).mono ?_; rintro e w3 ⟨rfl, hb⟩; have HB3 := Aside0.mk (HB1.out.trans (hb.mono HB1.out.size)); clear hb) | (go_at_call 21; refine (abc_calls _).mono ?_; rintro e w2 ⟨rfl, hb⟩; have HB2 := Aside0.mk (HB3.out.trans (hb.mono HB3.out.size)); clear hb))
    go_ret
    exact ⟨by simp, HB2.out⟩
  rw [hv] at hvs
  have HV := Aside0.mk hvs
  have HVV := Aside0.mk (cutB_valid s n hv)
  clear hvs hv
  obtain ⟨K, hK⟩ : ∃ K, K = 100000 := ⟨_, rfl⟩
  have hrun := runes_all s (by omega) K (by omega)
  clear hK
  have HR := Aside0.mk hrun
  clear hrun
  have w3 : wrap64 ((n : Int) - 3) = (n : Int) - 3 := by unfold wrap64; omega
  have hlen := runesI_len s s.size 0 (by omega)
  by_cases h5 : (((runesI s 0).length : Nat) : Int) < (n : Int) - 3
  · generalize (runesI s 0).length = len at *
    have e5 : decide ((len : Int) < (n : Int) - 3) = true := decide_eq_true h5
    clear w3
    go_enter Tryd.func8, Tryd.ntmps8
    go_wp2_with (first | (go_at_call 19; refine (laws_long.calls s false _ HL.out).mono ?_; rintro e w1 ⟨rfl, hd⟩; have HB1 := Aside0.mk (HB.out.trans hd.below); clear hd) | (go_at_call 15; refine (utf8_ValidString.calls s true _ (TBu.below HT.out HB1.out) HV.out).mono ?_; rintro e w3 ⟨rfl, hb⟩; have HB3 := Aside0.mk (HB1.out.trans (hb.mono HB1.out.size)); clear hb) | (go_at_call 20; refine (spec_Runes.calls K s (len : Int) _ HR.out).mono ?_; rintro e w4 ⟨rfl, hd⟩; have HB4 := Aside0.mk (HB3.out.trans (hd.below.mono HB3.out.size)); clear hd) | (go_at_call 21; refine (abc_calls _).mono ?_; rintro e w2 ⟨rfl, hb⟩; have HB2 := Aside0.mk (HB4.out.trans (hb.mono HB4.out.size)); clear hb))
    go_ret
    exact ⟨by simp, HB2.out⟩
  · have HF := Aside0.mk (truncB_is s n (by omega) (by omega) (by omega))
    generalize (runesI s 0).length = len at *
    have e5 : decide ((len : Int) < (n : Int) - 3) = false := decide_eq_false h5
    have HCU := Aside0.mk (fun w => cut_calls s n w)
    have hvt : utf8_ValidString.f (cutB s n).1 = some true := by
      unfold utf8_ValidString.f
      rw [if_pos (by have := cutB_fits s n; omega), HVV.out]
    have HVT := Aside0.mk hvt
    clear w3 hvt HVV
    generalize cutB s n = c at *
    obtain ⟨t, cut⟩ := c
    simp only at HF HCU HVT
    go_enter Tryd.func8, Tryd.ntmps8
    go_wp2_with (first | (go_at_call 19; refine (laws_long.calls s false _ HL.out).mono ?_; rintro e w1 ⟨rfl, hd⟩; have HB1 := Aside0.mk (HB.out.trans hd.below); clear hd) | (go_at_call 15; refine (utf8_ValidString.calls s true _ (TBu.below HT.out HB1.out) HV.out).mono ?_; rintro e w3 ⟨rfl, hb⟩; have HB3 := Aside0.mk (HB1.out.trans (hb.mono HB1.out.size)); clear hb HV) | (go_at_call 20; refine (spec_Runes.calls K s (len : Int) _ HR.out).mono ?_; rintro e w4 ⟨rfl, hd⟩; have HB4 := Aside0.mk (HB3.out.trans (hd.below.mono HB3.out.size)); clear hd) | (go_at_call 21; refine (impl_TruncateBytes.calls s (n : Int) t cut _ HF.out).mono ?_; rintro e w2 ⟨rfl, hb⟩; have HB2 := Aside0.mk (HB4.out.trans (hb.mono HB4.out.size)); clear hb) | (go_at_call 22; refine (HCU.out _).mono ?_; rintro e w' ⟨rfl, rfl⟩) | (go_at_call 15; refine (utf8_ValidString.calls t true _ (TBu.below HT.out HB2.out) HVT.out).mono ?_; rintro e w5 ⟨rfl, hb⟩; have HB5 := Aside0.mk (HB2.out.trans (hb.mono HB2.out.size)); clear hb))
    go_ret
    exact ⟨by simp, HB5.out⟩
def laws_FnTruncateBytes.f (_ : ByteArray) (_ : Int) : Option Bool := some true
theorem laws_FnTruncateBytes.calls (a0 : ByteArray) (a1 : Int) (r : Bool) (w : World) (tb : TBu w) (h : laws_FnTruncateBytes.f a0 a1 = some r) :
    Calls Tryd.prog 8 #[.string a0, .int .i64 a1] w fun e w' => e = .returned (.bool r) ∧ Below w.heap.size w w' := by
  obtain rfl := Option.some.inj h
  exact truncLaw_calls a0 a1 w tb
end Go.Proofs.YtkbaihcamimnjaaDoor.Q
