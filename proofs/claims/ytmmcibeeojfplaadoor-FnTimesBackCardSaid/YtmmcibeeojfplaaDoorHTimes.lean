/- impl.Times and impl.TimeTexts at minutes of a day. Condition: from 0 to 1440 minutes. -/
import Derived.Test.YtmmcibeeojfplaaDoorHSplit
import Derived.Test.YtmmcibeeojfplaaDoorHErr
import Derived.Test.YtmmcibeeojfplaaDoorHSAtoi
import Derived.Test.YtmmcibeeojfplaaDoorUTimes
set_option linter.unusedVariables false
set_option linter.unusedSimpArgs false
namespace Go.Proofs.YtmmcibeeojfplaaDoor.Q
open Go.RowKit Go.Lib Go.Proofs.YtmmcibeeojfplaaDoorW.PrintWords Go.Proofs.YtmmcibeeojfplaaDoorW.PrintLast Go.Proofs.YtmmcibeeojfplaaDoorW.PrintMore
attribute [local go_sem] max2_int min2_int max_two min_two max_three min_three max_four min_four
theorem atoi_below {w w' : World} (h : w' = w ∨ ∃ t, w' = Lib.bytesWorld w 5 t) : Below w.heap.size w w' := by
  rcases h with rfl | ⟨t, rfl⟩
  · exact Below.refl _ _
  · exact Lib.bytesWorld_below _ _ _
set_option maxRecDepth 100000 in
set_option maxHeartbeats 4000000 in
theorem parseTime_calls (n : Nat) (hn : n ≤ 1440) (w : World) :
    Calls Tryd.prog 119 #[.string (timeS n)] w fun e w' => e = .returned (.tuple #[.int .i64 n, .nilIface]) ∧ Below w.heap.size w w' := by
  have HV := Aside0.mk (valid_all ⟨n, by omega⟩)
  have HS := Aside0.mk (split_time n hn)
  have HH := Aside0.mk (hh_all ⟨n, by omega⟩)
  have HM := Aside0.mk (mm_all ⟨n, by omega⟩)
  have hsz : (timeS n).size ≤ 100000 := by show 5 ≤ _; omega
  have hsh : (hhS n).size = 2 := rfl
  have hsm : (mmS n).size = 2 := rfl
  have HZ := Aside0.mk (And.intro hsh hsm)
  have h60 : 60 * (n / 60) + n % 60 = n := Nat.div_add_mod n 60
  have HQ := Aside0.mk h60
  have hq1 : n / 60 ≤ 24 := by omega
  have hq2 : n % 60 ≤ 59 := by omega
  clear hsh hsm h60
  generalize timeS n = s at *
  generalize hhS n = a at *
  generalize mmS n = b at *
  generalize hqd : n / 60 = q at *
  generalize hrd : n % 60 = r at *
  clear hqd hrd
  go_enter Tryd.func119, Tryd.ntmps119
  go_wp2_with (first
    | (go_at_call 141; refine (timeinterval_zzValidTime.calls 2 s true _ HV.out).mono ?_; rintro e w1 ⟨rfl, hd⟩; have HB1 := Aside0.mk hd.below; clear hd)
    | (go_at_call 123; refine (split_calls s hsz _).mono ?_; rintro e w2 ⟨v, rfl, hR, hb⟩; rw [HS.out] at hR; have HB2 := Aside0.mk (below_step HB1.out hb); obtain ⟨A, c, e4, hc, hC⟩ := Kd.R_reads hR; subst e4; obtain ⟨ad, e1, c0⟩ := Kd.at_string hC 0 (by decide) (by simp); cases e1; obtain ⟨ad', e2, c1⟩ := Kd.at_string hC 1 (by decide) (by simp); cases e2; have c0 : w2.cell? ad = some (.string a) := c0; have c1 : w2.cell? ⟨ad.block, ad.off + 1, none⟩ = some (.string b) := c1; clear hb hR hC))
  refine (Tryd.strconv_Atoi_ok a (by rw [HZ.out.1]; omega) _ HH.out _).mono ?_
  rintro e w3 ⟨rfl, hb3⟩
  have HB3 := Aside0.mk (below_step HB2.out (atoi_below hb3))
  have d0 := ((atoi_below hb3).cell (World.block_lt_of_cell? _ _ c0)).trans c0
  have d1 := ((atoi_below hb3).cell (World.block_lt_of_cell? _ _ c1)).trans c1
  clear hb3 c0 c1
  go_wp2_with fail
  refine (Tryd.strconv_Atoi_ok b (by rw [HZ.out.2]; omega) _ HM.out _).mono ?_
  rintro e w4 ⟨rfl, hb4⟩
  have HB4 := Aside0.mk (below_step HB3.out (atoi_below hb4))
  clear hb4 d0 d1
  go_wp2
  go_ret2
  exact ⟨by rw [← HQ.out]; first | rfl | (congr 1; simp; omega), HB4.out⟩
set_option maxHeartbeats 1000000 in
theorem twoDigits_calls (n : Nat) (hn : n < 100) (w : World) :
    Calls Tryd.prog 120 #[.int .i64 n] w fun e w' => e = .returned (.string (twoS n)) ∧ w = w' := by
  have HI := Aside0.mk (Tryd.strconv_Itoa_small n hn w)
  by_cases h : n < 10
  · have hd := dec_small ⟨n, h⟩
    have HE : Aside0 (∃ u : UInt8, (⟨(Lib.decDigits n).toArray⟩ : ByteArray) = ⟨#[u]⟩ ∧ twoS n = ⟨#[48]⟩ ++ ⟨#[u]⟩) := ⟨_, by rw [hd.1], hd.2⟩
    obtain ⟨u, hu1, hu2⟩ := HE.out
    have HE := Aside0.mk (And.intro hu1 hu2)
    rw [HE.out.2]
    clear hd hu1 hu2
    go_enter Tryd.func120, Tryd.ntmps120
    go_wp2_with fail
    refine HI.out.mono ?_
    rintro e w1 ⟨rfl, rfl⟩
    rw [HE.out.1]
    go_wp2
    go_ret
    exact ⟨rfl, rfl⟩
  · have hd := dec_big ⟨n, hn⟩ (by show 10 ≤ n; omega)
    have hsz : (twoS n).size = 2 := rfl
    have HE := Aside0.mk hd.2
    have hlt : (((twoS n).size : Int) < 2) = False := eq_false (by omega)
    clear hd
    go_enter Tryd.func120, Tryd.ntmps120
    go_wp2_with fail
    refine HI.out.mono ?_
    rintro e w1 ⟨rfl, rfl⟩
    rw [HE.out]
    clear hsz
    go_wp2
    go_ret
    exact ⟨rfl, rfl⟩
end Go.Proofs.YtmmcibeeojfplaaDoor.Q
