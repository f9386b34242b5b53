/- The order of alerts: what AlertSlice.Less and impl.AlertBefore return. No condition beyond the lengths named. -/
import Derived.Test.YtikhlolhodgegaaHEqual
import Derived.Deep.RegionLaw
import Derived.RegionTactic
set_option linter.unusedVariables false
set_option linter.unusedSimpArgs false
namespace Go.Proofs.Ytikhlolhodgegaa.Q
open Go.RowKit Go.Proofs.YtikhlolhodgegaaW.PrintWords Go.Proofs.YtikhlolhodgegaaW.PrintLast Go.Proofs.YtikhlolhodgegaaW.PrintMore
open Go.Maps (Keyed string_keyed)
attribute [local go_sem] max2_int min2_int max_two min_two max_three min_three max_four min_four
def jobB : ByteArray := ⟨#[106, 111, 98]⟩
def instB : ByteArray := ⟨#[105, 110, 115, 116, 97, 110, 99, 101]⟩
def cK (s : ByteArray) (D1 D2 : DataW Unit) : Option Bool := if hasD D1 s = false then (if hasD D2 s = false then none else some false) else if hasD D2 s = false then some true else stepV (valD D1 s) (valD D2 s)
def alV (D1 D2 : DataW Unit) (ns : List ByteArray) : Bool := match cK jobB D1 D2 with | some r => r | none => match cK instB D1 D2 with | some r => r | none => befV D1 D2 ns
theorem ix0 (w : World) : Sem.run Try.prog (Instr.index 114 (.agg #[.string ⟨#[106, 111, 98]⟩, .string ⟨#[105, 110, 115, 116, 97, 110, 99, 101]⟩]) (.int .i64 0)) w = .ok (.string ⟨#[106, 111, 98]⟩) w := by kernel_rfl
theorem ix1 (w : World) : Sem.run Try.prog (Instr.index 114 (.agg #[.string ⟨#[106, 111, 98]⟩, .string ⟨#[105, 110, 115, 116, 97, 110, 99, 101]⟩]) (.int .i64 1)) w = .ok (.string ⟨#[105, 110, 115, 116, 97, 110, 99, 101]⟩) w := by kernel_rfl
set_option maxRecDepth 100000 in
set_option maxHeartbeats 1600000 in
theorem alertLess_calls (P a0 a1 b1 n1 b2 n2 : Nat) (D1 D2 : DataW Unit) (w : World) (hp0 : w.cell? ⟨P, 0, none⟩ = some (.pointer (some ⟨a0, 0, none⟩))) (hp1 : w.cell? ⟨P, 1, none⟩ = some (.pointer (some ⟨a1, 0, none⟩))) (hm0 : w.cell? ⟨a0, 0, none⟩ = some (.map (some b1))) (hm1 : w.cell? ⟨a1, 0, none⟩ = some (.map (some b2)))
    (h1 : OwnsSet w b1 n1 D1) (h2 : OwnsSet w b2 n2 D2) (z1 : Maps.size D1 ≤ 1000000000) (z2 : Maps.size D2 ≤ 1000000000) :
    Calls Try.prog 59 #[.slice (some ⟨P, 0, none⟩) 2 2, .int .i64 0, .int .i64 1] w fun e w' => ∃ k1 : List (List UInt8), ∃ k2 : List (List UInt8), e = .returned (.bool (alV D1 D2 (srt (k1 ++ k2)))) ∧ k1.Perm (strKeys D1) ∧ k2.Perm (strKeys D2) ∧ Below w.heap.size w w' := by
  have H1 := Aside0.mk h1
  have H2 := Aside0.mk h2
  have HC := Aside0.mk (And.intro (And.intro hp0 hp1) (And.intro hm0 hm1))
  clear h1 h2 hp0 hp1 hm0 hm1
  have HD := Aside0.mk (Drawn0.refl w)
  have hix0 := ix0
  have hix1 := ix1
  go_enter Try.func59, Try.ntmps59
  go_wp2_with fail
  go_loopw [14] (fun v14 wr => ∃ x : Int, v14 = .int .i64 x ∧ Aside0 (x = 0 ∨ (x = 1 ∧ cK jobB D1 D2 = none) ∨ (x = 2 ∧ cK jobB D1 D2 = none ∧ cK instB D1 D2 = none)) ∧ Aside0 (Drawn0 w wr)) (fun v14 _ => ((2 : Int) - intOf v14).toNat)
  case atStart => exact ⟨0, rfl, ⟨.inl rfl⟩, HD⟩
  case round =>
    obtain ⟨x, rfl, HX, HD⟩ := hrel
    obtain ⟨q, rfl⟩ := HD.out
    have hp0 : (w.drewN q).cell? ⟨P, 0, none⟩ = some (.pointer (some ⟨a0, 0, none⟩)) := HC.out.1.1
    have hp1 : (w.drewN q).cell? ⟨P, 1, none⟩ = some (.pointer (some ⟨a1, 0, none⟩)) := HC.out.1.2
    have hm0 : (w.drewN q).cell? ⟨a0, 0, none⟩ = some (.map (some b1)) := HC.out.2.1
    have hm1 : (w.drewN q).cell? ⟨a1, 0, none⟩ = some (.map (some b2)) := HC.out.2.2
    have HO1 := Aside0.mk (own_R_below H1.out HD.out.below)
    have HO2 := Aside0.mk (own_R_below H2.out HD.out.below)
    rcases HX.out with rfl | ⟨rfl, hj⟩ | ⟨rfl, hj, hi⟩
    · have HKY : Aside0 (keyOf Try.prog 105 (.string jobB) = some (.string jobB.data.toList)) := ⟨WideMaps.keyOf_string_mk Try.underlying105 (by unfold maxLen; decide)⟩
      cases ha : hasD D1 jobB
      · cases hb : hasD D2 jobB
        · have HK : Aside0 (cK jobB D1 D2 = none) := ⟨by unfold cK; rw [ha, hb]; rfl⟩
          have HH1 := Aside0.mk ha
          have HH2 := Aside0.mk hb
          clear ha hb
          go_wp2_with (first | (at_lookup; refine lookup_str_ok _ rfl _ _ 65 rfl 105 110 keyed67 Try.underlying65 Try.underlying110 (zero68 _) b1 n1 D1 rfl HO1.out _ jobB rfl HKY.out false HH1.out ?_; intro s3 hs3 hsl3; clear hs3; clear hsl3) | (at_lookup; refine lookup_str_ok _ rfl _ _ 65 rfl 105 110 keyed67 Try.underlying65 Try.underlying110 (zero68 _) b2 n2 D2 rfl HO2.out _ jobB rfl HKY.out false HH2.out ?_; intro s4 hs4 hsl4; clear hs4; clear hsl4))
          go_roundw
          case rel => exact ⟨1, rfl, ⟨.inr (.inl ⟨rfl, HK.out⟩)⟩, HD⟩
          case measure => simp [intOf]
        · have HK : Aside0 (cK jobB D1 D2 = some false) := ⟨by unfold cK; rw [ha, hb]; rfl⟩
          have HH1 := Aside0.mk ha
          have HH2 := Aside0.mk hb
          clear ha hb
          go_wp2_with (first | (at_lookup; refine lookup_str_ok _ rfl _ _ 65 rfl 105 110 keyed67 Try.underlying65 Try.underlying110 (zero68 _) b1 n1 D1 rfl HO1.out _ jobB rfl HKY.out false HH1.out ?_; intro s3 hs3 hsl3; clear hs3; clear hsl3) | (at_lookup; refine lookup_str_ok _ rfl _ _ 65 rfl 105 110 keyed67 Try.underlying65 Try.underlying110 (zero68 _) b2 n2 D2 rfl HO2.out _ jobB rfl HKY.out true HH2.out ?_; intro s4 hs4 hsl4; clear hs4; clear hsl4))
          go_ret
          exact ⟨strKeys D1, strKeys D2, by rw [alV, HK.out]; rfl, List.Perm.refl _, List.Perm.refl _, by repeat (first | exact HD.out.below | exact Below.refl _ _)⟩
      · cases hb : hasD D2 jobB
        · have HK : Aside0 (cK jobB D1 D2 = some true) := ⟨by unfold cK; rw [ha, hb]; rfl⟩
          have HH1 := Aside0.mk ha
          have HH2 := Aside0.mk hb
          clear ha hb
          go_wp2_with (first | (at_lookup; refine lookup_str_ok _ rfl _ _ 65 rfl 105 110 keyed67 Try.underlying65 Try.underlying110 (zero68 _) b1 n1 D1 rfl HO1.out _ jobB rfl HKY.out true HH1.out ?_; intro s3 hs3 hsl3; clear hs3; clear hsl3) | (at_lookup; refine lookup_str_ok _ rfl _ _ 65 rfl 105 110 keyed67 Try.underlying65 Try.underlying110 (zero68 _) b2 n2 D2 rfl HO2.out _ jobB rfl HKY.out false HH2.out ?_; intro s4 hs4 hsl4; clear hs4; clear hsl4))
          go_ret
          exact ⟨strKeys D1, strKeys D2, by rw [alV, HK.out]; rfl, List.Perm.refl _, List.Perm.refl _, by repeat (first | exact HD.out.below | exact Below.refl _ _)⟩
        · have HH1 := Aside0.mk ha
          have HH2 := Aside0.mk hb
          have hck : cK jobB D1 D2 = stepV (valD D1 jobB) (valD D2 jobB) := by unfold cK; rw [ha, hb]; rfl
          clear ha hb
          generalize hv1 : valD D1 jobB = v1 at *
          generalize hv2 : valD D2 jobB = v2 at *
          have HV1 := Aside0.mk hv1
          have HV2 := Aside0.mk hv2
          clear hv1 hv2
          cases hq : (v1.toList == v2.toList)
          · have HK : Aside0 (cK jobB D1 D2 = some (Op.bytesLess v1.toList v2.toList)) := ⟨by rw [hck, stepV, if_neg (by simpa using hq)]⟩
            clear hck
            go_wp2_with (first | (at_lookup; refine lookup_str_ok _ rfl _ _ 65 rfl 105 110 keyed67 Try.underlying65 Try.underlying110 (zero68 _) b1 n1 D1 rfl HO1.out _ jobB rfl HKY.out true HH1.out ?_; intro s3 hs3 hsl3; rw [HV1.out] at hs3; subst hs3; clear hsl3) | (at_lookup; refine lookup_str_ok _ rfl _ _ 65 rfl 105 110 keyed67 Try.underlying65 Try.underlying110 (zero68 _) b2 n2 D2 rfl HO2.out _ jobB rfl HKY.out true HH2.out ?_; intro s4 hs4 hsl4; rw [HV2.out] at hs4; subst hs4; clear hsl4))
            go_ret
            exact ⟨strKeys D1, strKeys D2, by rw [alV, HK.out]; rfl, List.Perm.refl _, List.Perm.refl _, by repeat (first | exact HD.out.below | exact Below.refl _ _)⟩
          · have HK : Aside0 (cK jobB D1 D2 = none) := ⟨by rw [hck, stepV, if_pos (by simpa using hq)]⟩
            clear hck
            go_wp2_with (first | (at_lookup; refine lookup_str_ok _ rfl _ _ 65 rfl 105 110 keyed67 Try.underlying65 Try.underlying110 (zero68 _) b1 n1 D1 rfl HO1.out _ jobB rfl HKY.out true HH1.out ?_; intro s3 hs3 hsl3; rw [HV1.out] at hs3; subst hs3; clear hsl3) | (at_lookup; refine lookup_str_ok _ rfl _ _ 65 rfl 105 110 keyed67 Try.underlying65 Try.underlying110 (zero68 _) b2 n2 D2 rfl HO2.out _ jobB rfl HKY.out true HH2.out ?_; intro s4 hs4 hsl4; rw [HV2.out] at hs4; subst hs4; clear hsl4))
            go_roundw
            case rel => exact ⟨1, rfl, ⟨.inr (.inl ⟨rfl, HK.out⟩)⟩, HD⟩
            case measure => simp [intOf]
    · have HJ := Aside0.mk hj
      clear hj
      have HKY : Aside0 (keyOf Try.prog 105 (.string instB) = some (.string instB.data.toList)) := ⟨WideMaps.keyOf_string_mk Try.underlying105 (by unfold maxLen; decide)⟩
      cases ha : hasD D1 instB
      · cases hb : hasD D2 instB
        · have HK : Aside0 (cK instB D1 D2 = none) := ⟨by unfold cK; rw [ha, hb]; rfl⟩
          have HH1 := Aside0.mk ha
          have HH2 := Aside0.mk hb
          clear ha hb
          go_wp2_with (first | (at_lookup; refine lookup_str_ok _ rfl _ _ 65 rfl 105 110 keyed67 Try.underlying65 Try.underlying110 (zero68 _) b1 n1 D1 rfl HO1.out _ instB rfl HKY.out false HH1.out ?_; intro s3 hs3 hsl3; clear hs3; clear hsl3) | (at_lookup; refine lookup_str_ok _ rfl _ _ 65 rfl 105 110 keyed67 Try.underlying65 Try.underlying110 (zero68 _) b2 n2 D2 rfl HO2.out _ instB rfl HKY.out false HH2.out ?_; intro s4 hs4 hsl4; clear hs4; clear hsl4))
          go_roundw
          case rel => exact ⟨2, rfl, ⟨.inr (.inr ⟨rfl, HJ.out, HK.out⟩)⟩, HD⟩
          case measure => simp [intOf]
        · have HK : Aside0 (cK instB D1 D2 = some false) := ⟨by unfold cK; rw [ha, hb]; rfl⟩
          have HH1 := Aside0.mk ha
          have HH2 := Aside0.mk hb
          clear ha hb
          go_wp2_with (first | (at_lookup; refine lookup_str_ok _ rfl _ _ 65 rfl 105 110 keyed67 Try.underlying65 Try.underlying110 (zero68 _) b1 n1 D1 rfl HO1.out _ instB rfl HKY.out false HH1.out ?_; intro s3 hs3 hsl3; clear hs3; clear hsl3) | (at_lookup; refine lookup_str_ok _ rfl _ _ 65 rfl 105 110 keyed67 Try.underlying65 Try.underlying110 (zero68 _) b2 n2 D2 rfl HO2.out _ instB rfl HKY.out true HH2.out ?_; intro s4 hs4 hsl4; clear hs4; clear hsl4))
          go_ret
          exact ⟨strKeys D1, strKeys D2, by rw [alV, HJ.out, HK.out]; rfl, List.Perm.refl _, List.Perm.refl _, by repeat (first | exact HD.out.below | exact Below.refl _ _)⟩
      · cases hb : hasD D2 instB
        · have HK : Aside0 (cK instB D1 D2 = some true) := ⟨by unfold cK; rw [ha, hb]; rfl⟩
          have HH1 := Aside0.mk ha
          have HH2 := Aside0.mk hb
          clear ha hb
          go_wp2_with (first | (at_lookup; refine lookup_str_ok _ rfl _ _ 65 rfl 105 110 keyed67 Try.underlying65 Try.underlying110 (zero68 _) b1 n1 D1 rfl HO1.out _ instB rfl HKY.out true HH1.out ?_; intro s3 hs3 hsl3; clear hs3; clear hsl3) | (at_lookup; refine lookup_str_ok _ rfl _ _ 65 rfl 105 110 keyed67 Try.underlying65 Try.underlying110 (zero68 _) b2 n2 D2 rfl HO2.out _ instB rfl HKY.out false HH2.out ?_; intro s4 hs4 hsl4; clear hs4; clear hsl4))
          go_ret
          exact ⟨strKeys D1, strKeys D2, by rw [alV, HJ.out, HK.out]; rfl, List.Perm.refl _, List.Perm.refl _, by repeat (first | exact HD.out.below | exact Below.refl _ _)⟩
        · have HH1 := Aside0.mk ha
          have HH2 := Aside0.mk hb
          have hck : cK instB D1 D2 = stepV (valD D1 instB) (valD D2 instB) := by unfold cK; rw [ha, hb]; rfl
          clear ha hb
          generalize hv1 : valD D1 instB = v1 at *
          generalize hv2 : valD D2 instB = v2 at *
          have HV1 := Aside0.mk hv1
          have HV2 := Aside0.mk hv2
          clear hv1 hv2
          cases hq : (v1.toList == v2.toList)
          · have HK : Aside0 (cK instB D1 D2 = some (Op.bytesLess v1.toList v2.toList)) := ⟨by rw [hck, stepV, if_neg (by simpa using hq)]⟩
            clear hck
            go_wp2_with (first | (at_lookup; refine lookup_str_ok _ rfl _ _ 65 rfl 105 110 keyed67 Try.underlying65 Try.underlying110 (zero68 _) b1 n1 D1 rfl HO1.out _ instB rfl HKY.out true HH1.out ?_; intro s3 hs3 hsl3; rw [HV1.out] at hs3; subst hs3; clear hsl3) | (at_lookup; refine lookup_str_ok _ rfl _ _ 65 rfl 105 110 keyed67 Try.underlying65 Try.underlying110 (zero68 _) b2 n2 D2 rfl HO2.out _ instB rfl HKY.out true HH2.out ?_; intro s4 hs4 hsl4; rw [HV2.out] at hs4; subst hs4; clear hsl4))
            go_ret
            exact ⟨strKeys D1, strKeys D2, by rw [alV, HJ.out, HK.out]; rfl, List.Perm.refl _, List.Perm.refl _, by repeat (first | exact HD.out.below | exact Below.refl _ _)⟩
          · have HK : Aside0 (cK instB D1 D2 = none) := ⟨by rw [hck, stepV, if_pos (by simpa using hq)]⟩
            clear hck
            go_wp2_with (first | (at_lookup; refine lookup_str_ok _ rfl _ _ 65 rfl 105 110 keyed67 Try.underlying65 Try.underlying110 (zero68 _) b1 n1 D1 rfl HO1.out _ instB rfl HKY.out true HH1.out ?_; intro s3 hs3 hsl3; rw [HV1.out] at hs3; subst hs3; clear hsl3) | (at_lookup; refine lookup_str_ok _ rfl _ _ 65 rfl 105 110 keyed67 Try.underlying65 Try.underlying110 (zero68 _) b2 n2 D2 rfl HO2.out _ instB rfl HKY.out true HH2.out ?_; intro s4 hs4 hsl4; rw [HV2.out] at hs4; subst hs4; clear hsl4))
            go_roundw
            case rel => exact ⟨2, rfl, ⟨.inr (.inr ⟨rfl, HJ.out, HK.out⟩)⟩, HD⟩
            case measure => simp [intOf]
    · have HJ := Aside0.mk hj
      have HI := Aside0.mk hi
      clear hj hi
      go_wp2_with fail
      have hq0 := HC.out.1.1
      have hq1 := HC.out.1.2
      have hq2 := HC.out.2.1
      have hq3 := HC.out.2.2
      go_region_with (go_at_call 58; refine (before_calls _ _ _ _ _ _ _ (own_R_below H1.out (Drawn0.below ⟨_, rfl⟩)) (own_R_below H2.out (Drawn0.below ⟨_, rfl⟩)) z1 z2).mono ?_; rintro e w3 ⟨k1, k2, rfl, hk1, hk2, hB3⟩; have HB3 := Aside0.mk (below_step (Drawn0.below ⟨_, rfl⟩) hB3); have HE : Aside0 (befV D1 D2 (srt (k1 ++ k2)) = alV D1 D2 (srt (k1 ++ k2))) := ⟨by rw [alV, HJ.out, HI.out]⟩; have HP1 := Aside0.mk hk1; have HP2 := Aside0.mk hk2; clear hk1 hk2 hB3)
      all_goals
        go_wp2
        go_ret
        exact ⟨k1, k2, by rw [← HE.out]; rfl, HP1.out, HP2.out, HB3.out⟩
end Go.Proofs.Ytikhlolhodgegaa.Q
