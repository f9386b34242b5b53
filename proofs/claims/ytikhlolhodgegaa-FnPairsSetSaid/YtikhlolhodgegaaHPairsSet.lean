/- The law FnPairsSet by hand: it comes out true where its pieces say so. Condition: what its pieces say (PSok). -/
import Derived.Test.YtikhlolhodgegaaHKv1
import Derived.Test.YtikhlolhodgegaaQlawspairs
import Derived.Test.YtikhlolhodgegaaQspecHas
import Derived.Test.YtikhlolhodgegaaQspecValue
import Derived.Test.YtikhlolhodgegaaQlawsmuch
import Derived.Test.YtikhlolhodgegaaQlawszzFits1
import Derived.Deep.RegionHeld3
import Derived.Deep.RegionWith
import Derived.Lib.BufferOwn
set_option linter.unusedVariables false
set_option linter.unusedSimpArgs false
namespace Go.Proofs.Ytikhlolhodgegaa.Q
open Go.RowKit Go.Proofs.YtikhlolhodgegaaW.PrintWords Go.Proofs.YtikhlolhodgegaaW.PrintLast Go.Proofs.YtikhlolhodgegaaW.PrintMore
attribute [local go_sem] max2_int min2_int max_two min_two max_three min_three max_four min_four
def oneAB : List S26 := [⟨⟨#[97]⟩, ⟨#[98]⟩⟩]
/-- What the pieces of the law say. -/
structure PSok (K : Nat) (l s s1 : List S26) (cl cs : List S59) : Prop where
  fits : laws_zzFits1.f K l = some true
  first : impl_SortedPairs.f oneAB = some s1
  one : s1.length = 1
  small : laws_much.f l = some false
  sorted : impl_SortedPairs.f l = some s
  pl : laws_pairs.f K l = some cl
  ps : laws_pairs.f K s = some cs
  has : ∀ i : Int, 0 ≤ i → i < s.length → spec_Has.f K cl (rd_T26 s i).f0 = some true
  val : ∀ i : Int, 0 ≤ i → i < s.length → spec_Value.f K cl (rd_T26 s i).f0 = some (rd_T26 s i).f1
  apart : ∀ i j : Int, 0 ≤ j → j < i → i < s.length → ((rd_T26 s j).f0.toList == (rd_T26 s i).f0.toList) = false
  back : ∀ i : Int, 0 ≤ i → i < l.length → spec_Has.f K cs (rd_T26 l i).f0 = some true
  len : s.length ≤ 300 ∧ l.length ≤ 300
theorem oneAB_row (w : World) : Kd.C k26 (w.alloc (.cells #[.string ⟨#[97]⟩, .string ⟨#[98]⟩] 26)) (some ⟨w.heap.size, 0, none⟩) oneAB.length oneAB := by
  refine ⟨rfl, by decide, fun _ => ⟨_, rfl, fun j p hj => ?_⟩⟩
  have hj0 : j = 0 := by
    have := (List.getElem?_eq_some_iff.1 hj).1
    simp [oneAB] at this
    exact this
  subst hj0
  obtain rfl : (⟨⟨#[97]⟩, ⟨#[98]⟩⟩ : S26) = p := Option.some.inj hj
  have hb := heap_alloc_new w (.cells #[.string ⟨#[97]⟩, .string ⟨#[98]⟩] 26)
  refine ⟨[.string ⟨#[97]⟩, .string ⟨#[98]⟩], rfl, k26_mk _ _, fun i u hu => ?_⟩
  have e : ((⟨w.heap.size, 0, none⟩ : Addr).add (0 * k26.sz + i)) = ⟨w.heap.size, i, none⟩ := by rw [Nat.zero_mul, Nat.zero_add]; simp [Addr.add]; exact fun h => h.symm
  rw [e, Lib.cell_of_heap hb i]
  match i, hu with
  | 0, hu => exact hu
  | 1, hu => exact hu
  | i + 2, hu => simp at hu
theorem keepP {w5 W W' : World} {g : Nat} {a b : Value} (h : W.cell? ⟨g, 0, none⟩ = some a ∧ W.cell? ⟨g, 1, none⟩ = some b ∧ Aside0 (Below w5.heap.size w5 W)) (hb : Below W.heap.size W W') : W'.cell? ⟨g, 0, none⟩ = some a ∧ W'.cell? ⟨g, 1, none⟩ = some b ∧ Aside0 (Below w5.heap.size w5 W') :=
  ⟨(hb.cell (World.block_lt_of_cell? _ _ h.1)).trans h.1, (hb.cell (World.block_lt_of_cell? _ _ h.2.1)).trans h.2.1, ⟨below_step h.2.2.out hb⟩⟩
set_option maxRecDepth 100000 in
set_option maxHeartbeats 8000000 in
theorem pairsSet_calls (A0 : Option Addr) (c0 : Nat) (l s s1 : List S26) (cl cs : List S59) (K : Nat) (w : World) (hr0 : Kd.C k26 w A0 l.length l) (hc0 : l.length ≤ c0) (h : PSok K l s s1 cl cs) :
    Calls Try.prog 7 #[.slice A0 l.length c0] w fun e w' => e = .returned (.bool true) ∧ Below w.heap.size w w' := by
  have HP := Aside0.mk h
  have HR0 := Aside0.mk hr0
  have hu0 := Try.underlying26
  have hl1 := h.one
  have hz := h.len
  clear h hr0
  go_enter Try.func7, Try.ntmps7
  go_wp2_with fail
  refine (laws_zzFits1.calls K A0 c0 l true _ HR0.out hc0 HP.out.fits).mono ?_
  rintro e w1 ⟨rfl, hb⟩
  have HB1 := Aside0.mk hb
  clear hb
  go_wp2_with fail
  refine (impl_SortedPairs.calls _ 1 oneAB s1 _ (oneAB_row w1) (Nat.le_refl _) HP.out.first).mono ?_
  rintro e w2 ⟨v2, rfl, hR2, hb⟩
  obtain ⟨A2, c2, rfl, _, _⟩ := Kd.R_reads hR2
  have HB2 := Aside0.mk (below_step (below_alloc HB1.out _) hb)
  rw [hl1]
  clear hb hR2 HB1
  go_wp2_with fail
  refine (laws_much.calls A0 c0 l false _ (Kd.C_below HR0.out HB2.out) hc0 HP.out.small).mono ?_
  rintro e w3 ⟨rfl, ⟨d3, rfl⟩⟩
  go_wp2_with fail
  refine (impl_SortedPairs.calls A0 c0 l s _ (Kd.C_drewN (Kd.C_below HR0.out HB2.out) _) hc0 HP.out.sorted).mono ?_
  rintro e w5 ⟨v5, rfl, hR5, hb⟩
  obtain ⟨A5, c5, rfl, hc5, hC5⟩ := Kd.R_reads hR5
  have HB5 := Aside0.mk (below_step (pw_below_drewN HB2.out _) hb)
  have HS := Aside0.mk hC5
  have HL5 := Aside0.mk (Kd.C_below HR0.out HB5.out)
  clear hb hR5 hC5 HB2
  go_wp2_with fail
  go_loopw [24] (fun v24 wr => ∃ x : Int, 0 ≤ x ∧ x ≤ (s.length : Int) ∧ v24 = .int .i64 x ∧ Aside0 (Below w5.heap.size w5 wr)) (fun v24 _ => ((s.length : Int) - intOf v24).toNat)
  case atStart => exact ⟨0, by omega, by omega, rfl, ⟨Below.refl _ _⟩⟩
  case round =>
    obtain ⟨x, hx, hxl, rfl, HB⟩ := hrel
    obtain ⟨n, rfl⟩ := Int.eq_ofNat_of_zero_le hx
    by_cases hlt : (n : Int) < (s.length : Int)
    · obtain ⟨ad, e1, hx0, hx1⟩ := at_T26 HS.out (n : Int) hx hlt
      cases e1
      replace hx0 := (HB.out.cell (World.block_lt_of_cell? w5 _ hx0)).trans hx0
      replace hx1 := (HB.out.cell (World.block_lt_of_cell? w5 _ hx1)).trans hx1
      simp only [Int.toNat_natCast] at hx0 hx1
      have hlt' : n < s.length := by omega
      have hp := eq_true hx
      have hq := eq_true hlt
      have hq' := eq_true hlt'
      have HH := Aside0.mk (HP.out.has (n : Int) hx hlt)
      have HV := Aside0.mk (HP.out.val (n : Int) hx hlt)
      have HA := Aside0.mk (fun j => HP.out.apart (n : Int) j)
      generalize rd_T26 s (n : Int) = p at *
      go_wp2
      have hnb := heap_alloc_new wr (.cells #[.string p.f0, .string p.f1] 26)
      have HS0 : Aside0 ((wr.alloc (.cells #[.string p.f0, .string p.f1] 26)).cell? ⟨wr.heap.size, 0, none⟩ = some (.string p.f0) ∧ (wr.alloc (.cells #[.string p.f0, .string p.f1] 26)).cell? ⟨wr.heap.size, 1, none⟩ = some (.string p.f1) ∧ Aside0 (Below w5.heap.size w5 (wr.alloc (.cells #[.string p.f0, .string p.f1] 26)))) := ⟨Lib.cell_of_heap hnb 0, Lib.cell_of_heap hnb 1, ⟨below_alloc HB.out _⟩⟩
      clear hnb hx0 hx1
      generalize wr.alloc (.cells #[.string p.f0, .string p.f1] 26) = W0 at HS0 ⊢
      generalize wr.heap.size = g at HS0 ⊢
      replace HS0 := Aside0.mk (keepP HS0.out (Below.drew (Below.refl _ W0)))
      go_region_held3 (fun W => W.cell? ⟨g, 0, none⟩ = some (.string p.f0) ∧ W.cell? ⟨g, 1, none⟩ = some (.string p.f1) ∧ Aside0 (Below w5.heap.size w5 W)) (first | (with_reducible exact HS0.out) | (with_reducible exact HS6.out) | (with_reducible exact HS7.out) | (with_reducible exact HS8.out) | (with_reducible exact HS9.out)) (first
        | (go_at_call 20; (with_reducible refine (laws_pairs.calls K A0 c0 l cl W0.drew (Kd.C_below HL5.out HS0.out.2.2.out) hc0 HP.out.pl).mono ?_); rintro e w6 ⟨v6, rfl, hR6, hb6⟩; obtain ⟨A6, c6, rfl, hc6, hC6⟩ := Kd.R_reads hR6; have HC6 := Aside0.mk hC6; have HS6 := Aside0.mk (keepP HS0.out hb6); clear hR6 hC6 hb6)
        | (go_at_call 27; (with_reducible refine (spec_Has.calls K A6 c6 cl p.f0 true w6 HC6.out hc6 HH.out).mono ?_); rintro e w7 ⟨rfl, hd7⟩; have HS7 := Aside0.mk (keepP HS6.out hd7.below); clear hd7)
        | (go_at_call 20; (with_reducible refine (laws_pairs.calls K A0 c0 l cl w7 (Kd.C_below HL5.out HS7.out.2.2.out) hc0 HP.out.pl).mono ?_); rintro e w8 ⟨v8, rfl, hR8, hb8⟩; obtain ⟨A8, c8, rfl, hc8, hC8⟩ := Kd.R_reads hR8; have HC8 := Aside0.mk hC8; have HS8 := Aside0.mk (keepP HS7.out hb8); clear hR8 hC8 hb8)
        | (go_at_call 26; (with_reducible refine (spec_Value.calls K A8 c8 cl p.f0 p.f1 w8 HC8.out hc8 HV.out).mono ?_); rintro e w9 ⟨rfl, hd9⟩; have HS9 := Aside0.mk (keepP HS8.out hd9.below); clear hd9))
      clear HS0 HS6 HS7 HS8 HC6 HC8 HB
      have hnl : n ≤ s.length := by omega
      have hnl' := eq_true hnl
      have hcn : n ≤ c5 := by omega
      go_wp2
      go_loopw [49] (fun v49 wi => ∃ y : Int, 0 ≤ y ∧ y ≤ (n : Int) ∧ v49 = .int .i64 y ∧ Aside0 (wi.cell? ⟨g, 0, none⟩ = some (.string p.f0) ∧ wi.cell? ⟨g, 1, none⟩ = some (.string p.f1) ∧ Aside0 (Below w5.heap.size w5 wi))) (fun v49 _ => ((n : Int) - intOf v49).toNat)
      case atStart => exact ⟨0, by omega, by omega, rfl, HS9⟩
      case round =>
        obtain ⟨y, hy, hyl, rfl, HI⟩ := hrel
        by_cases hlty : y < (n : Int)
        · obtain ⟨ad2, e2, hy0, hy1⟩ := at_T26 HS.out y hy (by omega)
          cases e2
          replace hy0 := (HI.out.2.2.out.cell (World.block_lt_of_cell? w5 _ hy0)).trans hy0
          replace hy1 := (HI.out.2.2.out.cell (World.block_lt_of_cell? w5 _ hy1)).trans hy1
          have hap := HA.out y hy hlty hlt
          have hp2 := eq_true hy
          have hq2 := eq_true hlty
          generalize rd_T26 s y = q at *
          have hkp := keepP HI.out (below_alloc (Below.refl _ wr) (.cells #[.string q.f0, .string q.f1] 26))
          have k0 := hkp.1
          have HKP := Aside0.mk hkp
          clear hkp
          go_wp2
          go_roundw
          case rel => exact ⟨y + 1, by omega, by omega, by go_simp, HKP⟩
          case measure => simp [intOf]; omega
        · have hye : y = (n : Int) := by omega
          subst hye
          go_wp2
          go_roundw
          case rel => exact ⟨(n : Int) + 1, by omega, by omega, by go_simp, HI.out.2.2⟩
          case measure => simp [intOf]; omega
    · have hxe : n = s.length := by omega
      subst hxe
      go_wp2
      go_loopw [62] (fun v62 wr => ∃ x : Int, 0 ≤ x ∧ x ≤ (l.length : Int) ∧ v62 = .int .i64 x ∧ Aside0 (Below w5.heap.size w5 wr)) (fun v62 _ => ((l.length : Int) - intOf v62).toNat)
      case atStart => exact ⟨0, by omega, by omega, rfl, HB⟩
      case round =>
        obtain ⟨x, hx2, hxl2, rfl, HB2⟩ := hrel
        obtain ⟨m, rfl⟩ := Int.eq_ofNat_of_zero_le hx2
        by_cases hlt2 : (m : Int) < (l.length : Int)
        · obtain ⟨ad, e1, hx0, hx1⟩ := at_T26 HL5.out (m : Int) hx2 hlt2
          cases e1
          replace hx0 := (HB2.out.cell (World.block_lt_of_cell? w5 _ hx0)).trans hx0
          replace hx1 := (HB2.out.cell (World.block_lt_of_cell? w5 _ hx1)).trans hx1
          simp only [Int.toNat_natCast] at hx0 hx1
          have hlt3 : m < l.length := by omega
          have hp := eq_true hx2
          have hq := eq_true hlt2
          have hq' := eq_true hlt3
          have HH := Aside0.mk (HP.out.back (m : Int) hx2 hlt2)
          generalize rd_T26 l (m : Int) = p at *
          go_wp2
          have hnb := heap_alloc_new wr (.cells #[.string p.f0, .string p.f1] 26)
          have HS0 : Aside0 ((wr.alloc (.cells #[.string p.f0, .string p.f1] 26)).cell? ⟨wr.heap.size, 0, none⟩ = some (.string p.f0) ∧ (wr.alloc (.cells #[.string p.f0, .string p.f1] 26)).cell? ⟨wr.heap.size, 1, none⟩ = some (.string p.f1) ∧ Aside0 (Below w5.heap.size w5 (wr.alloc (.cells #[.string p.f0, .string p.f1] 26)))) := ⟨Lib.cell_of_heap hnb 0, Lib.cell_of_heap hnb 1, ⟨below_alloc HB2.out _⟩⟩
          clear hnb hx0 hx1
          generalize wr.alloc (.cells #[.string p.f0, .string p.f1] 26) = W0 at HS0 ⊢
          generalize wr.heap.size = g at HS0 ⊢
          replace HS0 := Aside0.mk (keepP HS0.out (Below.drew (Below.refl _ W0)))
          go_region_held3 (fun W => W.cell? ⟨g, 0, none⟩ = some (.string p.f0) ∧ W.cell? ⟨g, 1, none⟩ = some (.string p.f1) ∧ Aside0 (Below w5.heap.size w5 W)) (first | (with_reducible exact HS0.out) | (with_reducible exact HS6.out) | (with_reducible exact HS7.out)) (first
            | (go_at_call 20; (with_reducible refine (laws_pairs.calls K _ c5 s cs W0.drew (Kd.C_below HS.out HS0.out.2.2.out) hc5 HP.out.ps).mono ?_); rintro e w6 ⟨v6, rfl, hR6, hb6⟩; obtain ⟨A6, c6, rfl, hc6, hC6⟩ := Kd.R_reads hR6; have HC6 := Aside0.mk hC6; have HS6 := Aside0.mk (keepP HS0.out hb6); clear hR6 hC6 hb6)
            | (go_at_call 27; (with_reducible refine (spec_Has.calls K A6 c6 cs p.f0 true w6 HC6.out hc6 HH.out).mono ?_); rintro e w7 ⟨rfl, hd7⟩; have HS7 := Aside0.mk (keepP HS6.out hd7.below); clear hd7))
          go_wp2
          go_roundw
          case rel => exact ⟨(m : Int) + 1, by omega, by omega, by go_simp, HS7.out.2.2⟩
          case measure => simp [intOf]; omega
        · go_wp2
          go_ret
          exact ⟨rfl, below_step HB5.out HB2.out⟩
end Go.Proofs.Ytikhlolhodgegaa.Q
