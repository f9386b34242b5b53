/- What spec.Set returns. No condition beyond the length named. -/
import Derived.Test.YtikhlolhodgegaaHSet1
set_option linter.unusedVariables false
set_option linter.unusedSimpArgs false
namespace Go.Proofs.Ytikhlolhodgegaa.Q
open Go.RowKit Go.Proofs.YtikhlolhodgegaaW.PrintWords Go.Proofs.YtikhlolhodgegaaW.PrintLast Go.Proofs.YtikhlolhodgegaaW.PrintMore
attribute [local go_sem] max2_int min2_int max_two min_two max_three min_three max_four min_four
def spec_Set.f (l0 : List (S59)) : Option ((List (S59))) := if l0.length ≤ 10000000000 then some (setGo l0 []) else none
set_option maxRecDepth 100000 in
set_option maxHeartbeats 1600000 in
theorem spec_Set.calls (A0 : Option Addr) (c0 : Nat) (l0 : List (S59)) (r : List (S59)) (w : World) (hr0 : Kd.C k59 w A0 l0.length l0) (_hc0 : l0.length ≤ c0) (h : spec_Set.f l0 = some r) :
    Calls Try.prog 19 #[.slice A0 l0.length c0] w fun e w' => ∃ v0_ : Value, e = .returned (v0_) ∧ Kd.R k59 59 w' w.heap.size (fun _ => True) v0_ r ∧ Below w.heap.size w w' := by
  unfold spec_Set.f at h
  split at h
  case isFalse => cases h
  rename_i hlen
  obtain rfl := Option.some.inj h
  clear h
  have hus := Try.underlying59
  have HR0 := Aside0.mk hr0
  clear hr0
  have HB := Aside0.mk (Below.refl w.heap.size w)
  go_enter Try.func19, Try.ntmps19
  go_wp2
  go_loopw [3, 10] (fun v3 v10 wr => ∃ (x : Int) (out : List S59), 0 ≤ x ∧ x ≤ (l0.length : Int) ∧ v10 = .int .i64 x ∧ Aside0 (setGo (l0.drop x.toNat) out = setGo l0 []) ∧ Aside0 (out.length ≤ x.toNat) ∧ Aside0 (Kd.R k59 59 wr w.heap.size (fun _ => True) v3 out) ∧ Aside0 (Below w.heap.size w wr)) (fun _ v10 _ => ((l0.length : Int) - intOf v10).toNat)
  case atStart => exact ⟨0, [], by omega, by omega, rfl, ⟨rfl⟩, ⟨by simp⟩, ⟨Kd.R_nil _ _ _ _ _⟩, HB⟩
  case round =>
    obtain ⟨x, out, hx, hxl, rfl, HG, HL, HO, HB⟩ := hrel
    by_cases hlt : x < (l0.length : Int)
    · obtain ⟨ad, e1, hx0, hx1⟩ := at_T59 HR0.out x hx hlt
      cases e1
      have hbl0 := World.block_lt_of_cell? w _ hx0
      replace hx0 := (HB.out.cell (World.block_lt_of_cell? w _ hx0)).trans hx0
      replace hx1 := (HB.out.cell (World.block_lt_of_cell? w _ hx1)).trans hx1
      have HC0 := Aside0.mk (Kd.C_below HR0.out HB.out)
      have hds := drop_stepSP l0 x hx hlt
      have HG2 := HG.out
      rw [hds] at HG2
      have HG2 := Aside0.mk HG2
      obtain ⟨A3, c3, e3, hc3, hC3⟩ := Kd.R_reads HO.out
      subst e3
      have HC3 := Aside0.mk hC3
      clear hC3
      generalize hpe : rd_T59 l0 x = p at *
      have hp := eq_true hx
      have hq := eq_true hlt
      have HX := Aside0.mk (And.intro hx0 hx1)
      have HPE := Aside0.mk hpe
      clear hds hx0 hx1 hpe HG hbl0
      go_wp2
      go_loopw [5, 6] (fun v5 v6 w2 => ∃ (b : Bool) (y : Int), v5 = .bool b ∧ v6 = .int .i64 y ∧ x + 1 ≤ y ∧ y ≤ (l0.length : Int) ∧ Aside0 ((b && (l0.drop y.toNat).all (neP p)) = (l0.drop (x + 1).toNat).all (neP p)) ∧ Aside0 (Drawn0 wr w2)) (fun _ v6 _ => ((l0.length : Int) - intOf v6).toNat)
      case atStart => exact ⟨true, x + 1, rfl, by go_simp, by omega, by omega, ⟨rfl⟩, ⟨Drawn0.refl _⟩⟩
      case round =>
        obtain ⟨b, y, rfl, rfl, hy, hyl, HA, HD⟩ := hrel
        by_cases hlt2 : y < (l0.length : Int)
        · obtain ⟨m, rfl⟩ := HD.out
          have hy0 : 0 ≤ y := by omega
          obtain ⟨ad2, e2, hz0, hz1⟩ := at_T59 HC0.out y hy0 hlt2
          cases e2
          have hds := drop_stepSP l0 y hy0 hlt2
          have HA2 := HA.out
          rw [hds, List.all_cons] at HA2
          generalize rd_T59 l0 y = q at *
          have hp2 := eq_true hy0
          have hq2 := eq_true hlt2
          have hx0 := HX.out.1
          cases b
          · have HA3 : Aside0 ((false && (l0.drop (y + 1).toNat).all (neP p)) = (l0.drop (x + 1).toNat).all (neP p)) := ⟨by rw [← HA2]; simp⟩
            clear HA2 HA hds
            go_wp2
            repeat (go_quiet (fail); try go_wp2)
            go_roundw
            case rel => exact ⟨false, y + 1, rfl, by go_simp, by omega, by omega, HA3, ⟨by repeat (first | exact HD.out | exact Drawn0.refl _ | apply Drawn0.step)⟩⟩
            case measure => simp [intOf]; omega
          · have HA3 : Aside0 ((neP p q && (l0.drop (y + 1).toNat).all (neP p)) = (l0.drop (x + 1).toNat).all (neP p)) := ⟨by rw [← HA2]; simp⟩
            clear HA2 HA hds
            go_wp2
            repeat (go_quiet (fail); try go_wp2)
            go_roundw
            case rel => exact ⟨neP p q, y + 1, rfl, by go_simp, by omega, by omega, HA3, ⟨by repeat (first | exact HD.out | exact Drawn0.refl _ | apply Drawn0.step)⟩⟩
            case measure => simp [intOf]; omega
        · obtain ⟨m, rfl⟩ := HD.out
          have hye : y = (l0.length : Int) := by omega
          subst hye
          have HA2 := HA.out
          rw [Int.toNat_natCast, List.drop_length] at HA2
          have HOD := Aside0.mk (Kd.R_below HO.out HD.out.below)
          have HBD := Aside0.mk (HB.out.trans (HD.out.below.mono HB.out.size))
          have hx0 := HX.out.1
          cases b
          · have HS := Aside0.mk (setStep_no (out := out) HA2.symm)
            clear HA2 HA
            go_wp2
            go_roundw
            case rel => exact ⟨x + 1, out, by omega, by omega, by go_simp, ⟨by rw [← HG2.out]; simp only [setGo]; rw [HS.out]⟩, ⟨by have := HL.out; omega⟩, HOD, HBD⟩
            case measure => simp [intOf]; omega
          · have HS := Aside0.mk (setStep_yes (out := out) HA2.symm)
            clear HA2 HA
            go_wp2
            go_loopw [7] (fun v7 w3 => ∃ y : Int, v7 = .int .i64 y ∧ 0 ≤ y ∧ y ≤ (out.length : Int) ∧ Aside0 (∀ q ∈ out.take y.toNat, ltP q p = true) ∧ Aside0 (Drawn0 wr w3)) (fun v7 _ => ((out.length : Int) - intOf v7).toNat)
            case atStart => exact ⟨0, rfl, by omega, by omega, ⟨by simp⟩, HD⟩
            case round =>
              obtain ⟨y, rfl, hy0, hzl, HT, HD3⟩ := hrel
              obtain ⟨m3, rfl⟩ := HD3.out
              have hol : (out.length : Int) ≤ 10000000000 := by have := HL.out; omega
              by_cases hlt3 : y < (out.length : Int)
              · obtain ⟨ad3, e3, hz0, hz1⟩ := at_T59 HC3.out y hy0 hlt3
                cases e3
                have hts := take_stepSP out y hy0 hlt3
                have hp3 := eq_true hy0
                have hq3 := eq_true hlt3
                cases hlp : ltP (rd_T59 out y) p
                · have HLP := Aside0.mk hlp
                  have hlq : Op.bytesLess (rd_T59 out y).f0.toList p.f0.toList = false := hlp
                  generalize rd_T59 out y = q at hz0 hz1 hlq
                  clear hts hlp
                  have HI := Aside0.mk (insP_at hy0 hzl HT.out (fun _ => HLP.out))
                  clear HT
                  go_wp2
                  repeat (go_quiet (fail); try go_wp2)
                  refine name_world wr (by repeat (first | exact HD3.out | exact Drawn0.refl _ | apply Drawn0.step)) ?_
                  intro W hW
                  have HWB := Aside0.mk hW.below
                  have HCW := Aside0.mk (Kd.C_below HC3.out hW.below)
                  have hx0 := (hW.below.cell (World.block_lt_of_cell? wr _ HX.out.1)).trans HX.out.1
                  have hx1 := (hW.below.cell (World.block_lt_of_cell? wr _ HX.out.2)).trans HX.out.2
                  have hyc : y ≤ (c3 : Int) := by omega
                  have hol2 := hol
                  have hlb : (ad.add (x.toNat * 2)).block < W.heap.size := Nat.lt_of_lt_of_le (World.block_lt_of_cell? wr _ HX.out.1) hW.below.size
                  have hlb1 : (⟨(ad.add (x.toNat * 2)).block, (ad.add (x.toNat * 2)).off + 1, none⟩ : Addr).block < W.heap.size := hlb
                  have HKT : Aside0 (Kd.C k59 W _ y.toNat (out.take y.toNat)) := ⟨by have := Kd.C_take HCW.out (m := y.toNat) (by omega); rwa [List.length_take, Nat.min_eq_left (by omega)] at this⟩
                  have HKD : Aside0 (Kd.C k59 W _ (out.length - y.toNat) (out.drop y.toNat)) := ⟨by have := Kd.C_drop HCW.out (m := y.toNat) (by omega) hc3; rwa [List.length_drop] at this⟩
                  clear HCW
                  go_region_law (first | (refine Kd.R_append_rows_step k59 (w0 := W) W.heap.size rfl (.tmp 56) (.tmp 59) 29 59 (.agg #[.string ⟨#[]⟩, .string ⟨#[]⟩]) 32 rfl Try.underlying29 infoSP rfl (by decide) (by decide) (.slice (some ⟨_, 0, none⟩) 0 0) _ _ _ _ _ (fun _ => True) (fun _ => False) rfl rfl (R_emptySP _ _ _ (by first | exact blkN (by simp) | exact blkO (blkN0 (by simp))) (by simp)) (Kd.C_below HKT.out (by repeat (first | exact Below.refl _ _ | apply below_alloc | apply below_drew))) MofSP (fun _ h => h.elim) (fun _ _ => trivial) (by repeat (first | exact Below.refl _ _ | apply below_alloc | apply below_drew)) (by first | (simp; done) | (simp; omega)) (by simp; omega) ?_; intro v60 w60 hR60 hB60 hG60 hA60; have HR60 := Aside0.mk hR60; have HB60 := Aside0.mk hB60; have HG60 := Aside0.mk hG60; have hz60 := (hB60.cell hlb).trans hx0; have hy60 := (hB60.cell hlb1).trans hx1; clear hR60 hB60 hG60 hA60) | (refine Kd.R_append_rows_step k59 (w0 := W) W.heap.size rfl (.tmp 60) (.tmp 65) 29 59 (.agg #[.string ⟨#[]⟩, .string ⟨#[]⟩]) 32 rfl Try.underlying29 infoSP rfl (by decide) (by decide) _ _ _ _ _ _ (fun _ => True) (fun _ => False) rfl rfl (by first | exact HR60.out | exact Kd.R_alloc HR60.out _) (by first | exact C_boxSP _ _ p (by first | exact blkN0 (by simp) | exact blkN (by simp)) | exact C_boxSP _ _ p ((HG60.out.block _ (by first | (simp; done) | (simp; omega)) (fun h => absurd (Option.some.inj h) (by first | (simp; done) | (simp; omega)))).trans (by first | exact blkN (by simp) | exact blkO (blkN0 (by simp))))) MofSP (fun _ h => h.elim) (fun _ _ => trivial) (by first | exact HB60.out | exact below_alloc HB60.out _) (by first | exact HB60.out.size | exact (below_alloc HB60.out _).size) (by simp; omega) ?_; intro v66 w66 hR66 hB66 hG66 hA66; have HR66 := Aside0.mk hR66; have HB66 := Aside0.mk hB66; have HG66 := Aside0.mk hG66; have hz66 := (hB66.cell hlb).trans hx0; have hy66 := (hB66.cell hlb1).trans hx1; clear hR66 hB66 hG66 hA66) | (refine Kd.R_append_rows_step k59 (w0 := W) W.heap.size rfl (.tmp 66) (.tmp 69) 29 59 (.agg #[.string ⟨#[]⟩, .string ⟨#[]⟩]) 32 rfl Try.underlying29 infoSP rfl (by decide) (by decide) _ _ _ _ _ _ (fun _ => True) (fun _ => False) rfl rfl (HR66.out) (Kd.C_below HKD.out HB66.out) MofSP (fun _ h => h.elim) (fun _ _ => trivial) (HB66.out) (HB66.out.size) (by simp; omega) ?_; intro v70 w70 hR70 hB70 hG70 hA70; have HR70 := Aside0.mk hR70; have HB70 := Aside0.mk hB70; have HG70 := Aside0.mk hG70; have hz70 := (hB70.cell hlb).trans hx0; have hy70 := (hB70.cell hlb1).trans hx1; clear hR70 hB70 hG70 hA70))
                  all_goals
                    go_wp2
                    go_roundw
                    case rel => exact ⟨x + 1, insP p out, by omega, by omega, by go_simp, ⟨by rw [← HG2.out]; simp only [setGo]; rw [HS.out]⟩, ⟨by have := HL.out; rw [HI.out]; simp; omega⟩, ⟨by rw [HI.out]; exact Kd.R_lower HR70.out (Nat.le_trans HB.out.size HWB.out.size)⟩, ⟨(HB.out.trans (HWB.out.mono HB.out.size)).trans (HB70.out.mono (Nat.le_trans HB.out.size HWB.out.size))⟩⟩
                    case measure => simp [intOf]; omega
                · have HT2 : Aside0 (∀ q ∈ out.take (y + 1).toNat, ltP q p = true) := ⟨by
                    rw [hts]; intro m hm; rcases List.mem_append.1 hm with h | h
                    · exact HT.out m h
                    · rw [List.mem_singleton.1 h]; exact hlp⟩
                  have hlq : Op.bytesLess (rd_T59 out y).f0.toList p.f0.toList = true := hlp
                  generalize rd_T59 out y = q at hz0 hz1 hlq
                  clear hts hlp HT
                  go_wp2
                  repeat (go_quiet (fail); try go_wp2)
                  go_roundw
                  case rel => exact ⟨y + 1, by go_simp, by omega, by omega, HT2, ⟨by repeat (first | exact HD3.out | exact Drawn0.refl _ | apply Drawn0.step)⟩⟩
                  case measure => simp [intOf]; omega
              · have hq3 := eq_false hlt3
                have HI := Aside0.mk (insP_at hy0 hzl HT.out (fun h => absurd h hlt3))
                clear HT hlt3
                go_wp2
                repeat (go_quiet (fail); try go_wp2)
                refine name_world wr (by repeat (first | exact HD3.out | exact Drawn0.refl _ | apply Drawn0.step)) ?_
                intro W hW
                have HWB := Aside0.mk hW.below
                have HCW := Aside0.mk (Kd.C_below HC3.out hW.below)
                have hx0 := (hW.below.cell (World.block_lt_of_cell? wr _ HX.out.1)).trans HX.out.1
                have hx1 := (hW.below.cell (World.block_lt_of_cell? wr _ HX.out.2)).trans HX.out.2
                have hyc : y ≤ (c3 : Int) := by omega
                have hol2 := hol
                have hlb : (ad.add (x.toNat * 2)).block < W.heap.size := Nat.lt_of_lt_of_le (World.block_lt_of_cell? wr _ HX.out.1) hW.below.size
                have hlb1 : (⟨(ad.add (x.toNat * 2)).block, (ad.add (x.toNat * 2)).off + 1, none⟩ : Addr).block < W.heap.size := hlb
                have HKT : Aside0 (Kd.C k59 W _ y.toNat (out.take y.toNat)) := ⟨by have := Kd.C_take HCW.out (m := y.toNat) (by omega); rwa [List.length_take, Nat.min_eq_left (by omega)] at this⟩
                have HKD : Aside0 (Kd.C k59 W _ (out.length - y.toNat) (out.drop y.toNat)) := ⟨by have := Kd.C_drop HCW.out (m := y.toNat) (by omega) hc3; rwa [List.length_drop] at this⟩
                clear HCW
                go_region_law (first | (refine Kd.R_append_rows_step k59 (w0 := W) W.heap.size rfl (.tmp 56) (.tmp 59) 29 59 (.agg #[.string ⟨#[]⟩, .string ⟨#[]⟩]) 32 rfl Try.underlying29 infoSP rfl (by decide) (by decide) (.slice (some ⟨_, 0, none⟩) 0 0) _ _ _ _ _ (fun _ => True) (fun _ => False) rfl rfl (R_emptySP _ _ _ (by first | exact blkN (by simp) | exact blkO (blkN0 (by simp))) (by simp)) (Kd.C_below HKT.out (by repeat (first | exact Below.refl _ _ | apply below_alloc | apply below_drew))) MofSP (fun _ h => h.elim) (fun _ _ => trivial) (by repeat (first | exact Below.refl _ _ | apply below_alloc | apply below_drew)) (by first | (simp; done) | (simp; omega)) (by simp; omega) ?_; intro v60 w60 hR60 hB60 hG60 hA60; have HR60 := Aside0.mk hR60; have HB60 := Aside0.mk hB60; have HG60 := Aside0.mk hG60; have hz60 := (hB60.cell hlb).trans hx0; have hy60 := (hB60.cell hlb1).trans hx1; clear hR60 hB60 hG60 hA60) | (refine Kd.R_append_rows_step k59 (w0 := W) W.heap.size rfl (.tmp 60) (.tmp 65) 29 59 (.agg #[.string ⟨#[]⟩, .string ⟨#[]⟩]) 32 rfl Try.underlying29 infoSP rfl (by decide) (by decide) _ _ _ _ _ _ (fun _ => True) (fun _ => False) rfl rfl (by first | exact HR60.out | exact Kd.R_alloc HR60.out _) (by first | exact C_boxSP _ _ p (by first | exact blkN0 (by simp) | exact blkN (by simp)) | exact C_boxSP _ _ p ((HG60.out.block _ (by first | (simp; done) | (simp; omega)) (fun h => absurd (Option.some.inj h) (by first | (simp; done) | (simp; omega)))).trans (by first | exact blkN (by simp) | exact blkO (blkN0 (by simp))))) MofSP (fun _ h => h.elim) (fun _ _ => trivial) (by first | exact HB60.out | exact below_alloc HB60.out _) (by first | exact HB60.out.size | exact (below_alloc HB60.out _).size) (by simp; omega) ?_; intro v66 w66 hR66 hB66 hG66 hA66; have HR66 := Aside0.mk hR66; have HB66 := Aside0.mk hB66; have HG66 := Aside0.mk hG66; have hz66 := (hB66.cell hlb).trans hx0; have hy66 := (hB66.cell hlb1).trans hx1; clear hR66 hB66 hG66 hA66) | (refine Kd.R_append_rows_step k59 (w0 := W) W.heap.size rfl (.tmp 66) (.tmp 69) 29 59 (.agg #[.string ⟨#[]⟩, .string ⟨#[]⟩]) 32 rfl Try.underlying29 infoSP rfl (by decide) (by decide) _ _ _ _ _ _ (fun _ => True) (fun _ => False) rfl rfl (HR66.out) (Kd.C_below HKD.out HB66.out) MofSP (fun _ h => h.elim) (fun _ _ => trivial) (HB66.out) (HB66.out.size) (by simp; omega) ?_; intro v70 w70 hR70 hB70 hG70 hA70; have HR70 := Aside0.mk hR70; have HB70 := Aside0.mk hB70; have HG70 := Aside0.mk hG70; have hz70 := (hB70.cell hlb).trans hx0; have hy70 := (hB70.cell hlb1).trans hx1; clear hR70 hB70 hG70 hA70))
                all_goals
                  go_wp2
                  go_roundw
                  case rel => exact ⟨x + 1, insP p out, by omega, by omega, by go_simp, ⟨by rw [← HG2.out]; simp only [setGo]; rw [HS.out]⟩, ⟨by have := HL.out; rw [HI.out]; simp; omega⟩, ⟨by rw [HI.out]; exact Kd.R_lower HR70.out (Nat.le_trans HB.out.size HWB.out.size)⟩, ⟨(HB.out.trans (HWB.out.mono HB.out.size)).trans (HB70.out.mono (Nat.le_trans HB.out.size HWB.out.size))⟩⟩
                  case measure => simp [intOf]; omega
    · have hxe : x = (l0.length : Int) := by omega
      subst hxe
      have HG2 := HG.out
      rw [Int.toNat_natCast, List.drop_length] at HG2
      have HG2 := Aside0.mk HG2
      go_wp2
      go_ret
      exact ⟨_, rfl, by rw [← HG2.out]; exact HO.out, HB.out⟩
end Go.Proofs.Ytikhlolhodgegaa.Q
