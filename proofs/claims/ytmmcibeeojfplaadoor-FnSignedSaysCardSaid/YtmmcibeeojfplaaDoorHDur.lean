/- model.ParseDuration, impl.ReadDuration and impl.ReadSigned: how long a text says. Condition: a text of at most 100000 bytes; strconv's errors as the library lays them. -/
import Derived.WalkLawsBesides
import Derived.Test.YtmmcibeeojfplaaDoorHDurA
import Derived.Test.YtmmcibeeojfplaaDoorHTabE
import Derived.Test.YtmmcibeeojfplaaDoorHSPu
import Derived.Test.YtmmcibeeojfplaaDoorQmodelisdigit
set_option linter.unusedVariables false
set_option linter.unusedSimpArgs false
namespace Go.Proofs.YtmmcibeeojfplaaDoor.Q
open Go.RowKit Go.Lib Go.Proofs.YtmmcibeeojfplaaDoorW.PrintWords Go.Proofs.YtmmcibeeojfplaaDoorW.PrintLast Go.Proofs.YtmmcibeeojfplaaDoorW.PrintMore
attribute [local go_sem] max2_int min2_int max_two min_two max_three min_three max_four min_four
theorem isdig_calls (t : ByteArray) (k : Nat) (h : k < t.size) (w : World) : Calls Tryd.prog 71 #[.int .u8 ((t[k]'h).toNat : Int)] w fun e w' => e = .returned (.bool (isDig (t[k]'h))) ∧ w = w' := by
  unfold isDig isDigI
  generalize ((t[k]'h).toNat : Int) = c
  by_cases h1 : 48 ≤ c
  · have d1 : decide (48 ≤ c) = true := decide_eq_true h1
    rw [d1, Bool.true_and]
    clear h1
    go_enter Tryd.func71, Tryd.ntmps71
    go_wp2
    go_ret
    exact ⟨rfl, rfl⟩
  · have d1 : decide (48 ≤ c) = false := decide_eq_false h1
    rw [d1, Bool.false_and]
    clear h1
    go_enter Tryd.func71, Tryd.ntmps71
    go_wp2
    go_ret
    exact ⟨rfl, rfl⟩
theorem uintOk_calls (s : ByteArray) (hs : s.size ≤ 100000) (v : Nat) (h : Lib.parseUintB 64 s.data.toList = .ok v) (w : World) :
    Calls Tryd.prog 72 #[.string s, .int .i64 10, .int .i64 0] w fun e w' => e = .returned (.tuple #[.int .u64 v, .nilIface]) ∧ Below w.heap.size w w' := by
  refine (Tryd.strconv_ParseUint_10_at0_ok s (by omega) v h w).mono ?_
  rintro e w' ⟨rfl, rfl | rfl⟩
  · exact ⟨rfl, Below.refl _ _⟩
  · exact ⟨rfl, Lib.bytesWorld_below _ _ _⟩
theorem uintRange_calls (s : ByteArray) (hs : s.size ≤ 100000) (h : Lib.parseUintB 64 s.data.toList = .range) (w : World) (tb : TBe w) :
    Calls Tryd.prog 72 #[.string s, .int .i64 10, .int .i64 0] w fun e w' => ∃ N, e = .returned (.tuple #[.int .u64 18446744073709551615, .iface 168 (.pointer (some ⟨N, 0, none⟩))]) ∧ Below w.heap.size w w' := by
  obtain ⟨tp, p, hv⟩ := tb.1
  refine (Tryd.strconv_ParseUint_10_at0_range_var s (by omega) h tp p w hv).mono ?_
  rintro e w' ⟨N, rfl, _, _, hb⟩
  exact ⟨N, rfl, hb⟩
theorem ex_take (s : ByteArray) (i : Nat) : (s.extract 0 i).data.toList = s.data.toList.take i := by
  rw [ByteArray.data_extract, Array.toList_extract]
  simp [List.extract_eq_take_drop]
theorem ex_dropR (s : ByteArray) (i : Nat) : (s.extract i s.size).data.toList = s.data.toList.drop i := by
  rw [ByteArray.data_extract, Array.toList_extract]
  simp only [List.extract_eq_take_drop]
  rw [List.take_of_length_le]
  rw [List.length_drop, Array.length_toList]
  exact Nat.le_refl _
theorem lenR (s : ByteArray) : s.data.toList.length = s.size := Array.length_toList
theorem atR (s : ByteArray) (i : Nat) (h : i < s.size) : s.data.toList[i]'(by rw [lenR]; exact h) = s[i]'h := rfl
/-- The state at the head of the loop over a duration's parts. -/
structure DurAt (w wr : World) (t : ByteArray) (dur : Nat) (last : Int) (tot : Option Nat) : Prop where
  size : t.size ≤ 100000
  dur_le : dur ≤ 9223372036854775807
  l0 : 0 ≤ last
  l7 : last ≤ 7
  ex : ∃ k, t.size < k ∧ durR k t.data.toList dur last = tot
  bel : Below w.heap.size w wr
def nDig (t : ByteArray) : Nat := spanN isDig t.data.toList
def nNon (t : ByteArray) : Nat := spanN (fun c => !isDig c) t.data.toList
theorem nDig_le (t : ByteArray) : nDig t ≤ t.size := by rw [← lenR]; exact spanN_le _ _
theorem nNon_le (t : ByteArray) : nNon t ≤ t.size := by rw [← lenR]; exact spanN_le _ _
theorem nDig_lt (t : ByteArray) (i : Nat) (h : i < nDig t) : isDig (t[i]'(Nat.lt_of_lt_of_le h (nDig_le t))) = true := spanN_lt isDig t.data.toList i h
theorem nNon_lt (t : ByteArray) (i : Nat) (h : i < nNon t) : isDig (t[i]'(Nat.lt_of_lt_of_le h (nNon_le t))) = false := by
  have := spanN_lt (fun c => !isDig c) t.data.toList i h
  rw [Bool.not_eq_true'] at this
  exact this
theorem nDig_at (t : ByteArray) (h : nDig t < t.size) : isDig (t[nDig t]'h) = false := spanN_at isDig t.data.toList (by rw [lenR]; exact h)
theorem nNon_at (t : ByteArray) (h : nNon t < t.size) : isDig (t[nNon t]'h) = true := by
  have := spanN_at (fun c => !isDig c) t.data.toList (by rw [lenR]; exact h)
  rw [Bool.not_eq_false'] at this
  exact this
theorem extR (r : ByteArray) (n : Nat) : (r.extract n r.size).size = r.size - n := by rw [ByteArray.size_extract]; omega
def DurEnd (dur : Nat) (last : Int) (v : Nat) (pos : Int) (mult : Nat) (tot : Option Nat) (E : Prop) : Prop := (tot = none ∧ (pos ≤ last ∨ 9223372036854775808 / mult < v ∨ 9223372036854775807 < dur + v * mult)) ∨ (last < pos ∧ v ≤ 9223372036854775808 / mult ∧ dur + v * mult ≤ 9223372036854775807 ∧ E)
/-- The ways through a round. -/
inductive DurWay (t : ByteArray) (dur : Nat) (last : Int) (tot : Option Nat) : Prop where
  | no (h : nDig t = 0) (ht : tot = none)
  | range (h : 0 < nDig t) (hr : Lib.parseUintB 64 (t.extract 0 (nDig t)).data.toList = .range) (ht : tot = none)
  | unit0 (v : Nat) (h : 0 < nDig t) (hr : Lib.parseUintB 64 (t.extract 0 (nDig t)).data.toList = .ok v) (hm : nNon (t.extract (nDig t) t.size) = 0) (ht : tot = none)
  | unitN (v : Nat) (h : 0 < nDig t) (hr : Lib.parseUintB 64 (t.extract 0 (nDig t)).data.toList = .ok v) (hm : 0 < nNon (t.extract (nDig t) t.size)) (hu : unitT ((t.extract (nDig t) t.size).extract 0 (nNon (t.extract (nDig t) t.size))).data.toList = none) (ht : tot = none)
  | unit (v : Nat) (pos : Int) (mult : Nat) (h : 0 < nDig t) (hr : Lib.parseUintB 64 (t.extract 0 (nDig t)).data.toList = .ok v) (hm : 0 < nNon (t.extract (nDig t) t.size)) (hu : unitT ((t.extract (nDig t) t.size).extract 0 (nNon (t.extract (nDig t) t.size))).data.toList = some (pos, mult))
      (ht : DurEnd dur last v pos mult tot (∃ k, (t.extract (nDig t) t.size).size - nNon (t.extract (nDig t) t.size) < k ∧ durR k (((t.extract (nDig t) t.size).extract (nNon (t.extract (nDig t) t.size)) (t.extract (nDig t) t.size).size).data.toList) (dur + v * mult) pos = tot))
theorem DurAt.way {w wr : World} {t : ByteArray} {dur : Nat} {last : Int} {tot : Option Nat} (h : DurAt w wr t dur last tot) (ht : 0 < t.size) : DurWay t dur last tot := by
  obtain ⟨k, hk, hd⟩ := h.ex
  obtain ⟨j, rfl⟩ : ∃ j, k = j + 1 := ⟨k - 1, by omega⟩
  have hne : t.data.toList ≠ [] := fun e => by
    have := lenR t
    rw [e] at this
    simp at this
    omega
  simp only [durR] at hd
  rw [if_neg hne] at hd
  by_cases h0 : spanN isDig t.data.toList = 0
  · rw [if_pos h0] at hd
    exact .no h0 hd.symm
  rw [if_neg h0] at hd
  have hp : 0 < nDig t := Nat.pos_of_ne_zero h0
  have e1 : t.data.toList.take (spanN isDig t.data.toList) = (t.extract 0 (nDig t)).data.toList := (ex_take t (nDig t)).symm
  have e2 : t.data.toList.drop (spanN isDig t.data.toList) = (t.extract (nDig t) t.size).data.toList := (ex_dropR t (nDig t)).symm
  have hw := uint_span t.data.toList h0
  rw [e1] at hd hw
  rw [e2] at hd
  have e3 : (t.extract (nDig t) t.size).data.toList.take (spanN (fun c => !isDig c) (t.extract (nDig t) t.size).data.toList) = ((t.extract (nDig t) t.size).extract 0 (nNon (t.extract (nDig t) t.size))).data.toList := (ex_take _ (nNon _)).symm
  have e4 : (t.extract (nDig t) t.size).data.toList.drop (spanN (fun c => !isDig c) (t.extract (nDig t) t.size).data.toList) = ((t.extract (nDig t) t.size).extract (nNon (t.extract (nDig t) t.size)) (t.extract (nDig t) t.size).size).data.toList := (ex_dropR _ (nNon _)).symm
  rcases hw with ⟨v, hv⟩ | hv
  · rw [hv] at hd
    simp only at hd
    by_cases hm : nNon (t.extract (nDig t) t.size) = 0
    · rw [if_pos (show spanN (fun c => !isDig c) (t.extract (nDig t) t.size).data.toList = 0 from hm)] at hd
      exact .unit0 v hp hv hm hd.symm
    rw [if_neg (show ¬ spanN (fun c => !isDig c) (t.extract (nDig t) t.size).data.toList = 0 from hm), e3] at hd
    have hmp := Nat.pos_of_ne_zero hm
    cases hu : unitT ((t.extract (nDig t) t.size).extract 0 (nNon (t.extract (nDig t) t.size))).data.toList with
    | none =>
      rw [hu] at hd
      exact .unitN v hp hv hmp hu hd.symm
    | some x =>
      obtain ⟨pos, mult⟩ := x
      rw [hu] at hd
      simp only at hd
      refine .unit v pos mult hp hv hmp hu ?_
      by_cases c1 : pos ≤ last
      · rw [if_pos c1] at hd
        exact Or.inl ⟨hd.symm, Or.inl c1⟩
      rw [if_neg c1] at hd
      by_cases c2 : 9223372036854775808 / mult < v
      · rw [if_pos c2] at hd
        exact Or.inl ⟨hd.symm, Or.inr (Or.inl c2)⟩
      rw [if_neg c2] at hd
      by_cases c3 : 9223372036854775807 < dur + v * mult
      · rw [if_pos c3] at hd
        exact Or.inl ⟨hd.symm, Or.inr (Or.inr c3)⟩
      rw [if_neg c3, e4] at hd
      exact Or.inr ⟨Int.not_le.1 c1, Nat.not_lt.1 c2, Nat.not_lt.1 c3, j, by rw [extR]; omega, hd⟩
  · rw [hv] at hd
    exact .range hp hv hd.symm
theorem u64_sum (dur v mult : Nat) (hm : 0 < mult) (h : (v : Int) ≤ 9223372036854775808 / (mult : Int)) (hd : dur ≤ 9223372036854775807) : IntKind.u64.wrap ((dur : Int) + IntKind.u64.wrap ((v : Int) * (mult : Int))) = ((dur + v * mult : Nat) : Int) := by
  have h2 : v ≤ 9223372036854775808 / mult := by
    have e : (9223372036854775808 : Int) / (mult : Int) = ((9223372036854775808 / mult : Nat) : Int) := by simp
    rw [e] at h
    exact Int.ofNat_le.1 h
  have h3 : v * mult ≤ 9223372036854775808 := by
    have := (Nat.le_div_iff_mul_le hm).1 h2
    exact this
  have e1 : ((v : Int) * (mult : Int)) = ((v * mult : Nat) : Int) := by simp
  rw [e1]
  generalize v * mult = x at *
  rw [IntWalk.u64_in (x : Int) (by omega), IntWalk.u64_in _ (by omega)]
  simp
theorem dur_none {dur : Nat} {last : Int} {v : Nat} {pos : Int} {mult : Nat} {tot : Option Nat} {E : Prop} (h : DurEnd dur last v pos mult tot E) (hm : 0 < mult) (hd : dur ≤ 9223372036854775807)
    (hc : pos ≤ last ∨ 9223372036854775808 / (mult : Int) < (v : Int) ∨ ((v : Int) ≤ 9223372036854775808 / (mult : Int) ∧ 9223372036854775807 < IntKind.u64.wrap ((dur : Int) + IntKind.u64.wrap ((v : Int) * (mult : Int))))) : tot = none := by
  rcases h with h | ⟨h1, h2, h3, _⟩
  · exact h.1
  · exfalso
    have e : (9223372036854775808 : Int) / (mult : Int) = ((9223372036854775808 / mult : Nat) : Int) := by simp
    rcases hc with c | c | ⟨c, d⟩
    · omega
    · rw [e] at c
      have := Int.ofNat_lt.1 c
      omega
    · rw [u64_sum dur v mult hm c hd] at d
      omega
theorem dur_next {dur : Nat} {last : Int} {v : Nat} {pos : Int} {mult : Nat} {tot : Option Nat} {E : Prop} (h : DurEnd dur last v pos mult tot E) (hm : 0 < mult) (hd : dur ≤ 9223372036854775807)
    (c1 : last < pos) (c2 : (v : Int) ≤ 9223372036854775808 / (mult : Int)) (c3 : IntKind.u64.wrap ((dur : Int) + IntKind.u64.wrap ((v : Int) * (mult : Int))) ≤ 9223372036854775807) :
    IntKind.u64.wrap ((dur : Int) + IntKind.u64.wrap ((v : Int) * (mult : Int))) = ((dur + v * mult : Nat) : Int) ∧ dur + v * mult ≤ 9223372036854775807 ∧ E := by
  have e := u64_sum dur v mult hm c2 hd
  rw [e] at c3
  refine ⟨e, by omega, ?_⟩
  rcases h with ⟨_, c | c | c⟩ | h
  · omega
  · exfalso
    have e2 : (9223372036854775808 : Int) / (mult : Int) = ((9223372036854775808 / mult : Nat) : Int) := by simp
    rw [e2] at c2
    have := Int.ofNat_le.1 c2
    omega
  · omega
  · exact h.2.2.2
set_option maxRecDepth 100000 in
set_option maxHeartbeats 8000000 in
theorem parse_calls (s : ByteArray) (hs : s.size ≤ 100000) (w : World) (tb : TBe w) :
    Calls Tryd.prog 41 #[.string s] w fun e w' => ∃ v, e = .returned (.tuple #[.int .i64 ((durF s.data.toList).getD 0 : Nat), v]) ∧ errIs (durF s.data.toList).isSome v ∧ Below w.heap.size w w' := by
  have HB := Aside0.mk (Below.refl w.heap.size w)
  have HTB := Aside0.mk tb
  clear tb
  by_cases h0 : s.toList = [48]
  · have b0 : (s.toList == ([48] : List UInt8)) = true := beq_iff_eq.2 h0
    have HT : Aside0 (durF s.data.toList = some 0) := ⟨by rw [ByteArray.toList_eq] at h0; rw [h0]; rfl⟩
    rw [HT.out]
    clear h0
    go_enter Tryd.func41, Tryd.ntmps41
    go_wp2
    go_ret2
    exact ⟨_, rfl, rfl, HB.out⟩
  have b0 : (s.toList == ([48] : List UInt8)) = false := beq_eq_false_iff_ne.2 h0
  by_cases h1 : s.toList = []
  · have b1 : (s.toList == ([] : List UInt8)) = true := beq_iff_eq.2 h1
    have HT : Aside0 (durF s.data.toList = none) := ⟨by rw [ByteArray.toList_eq] at h1; rw [h1]; rfl⟩
    rw [HT.out]
    clear h0 h1
    go_enter Tryd.func41, Tryd.ntmps41
    go_wp2_with (go_at_call 70; refine (errNew_calls _ _).mono ?_; rintro e w9 ⟨g9, rfl, hb9⟩; have HB9 := Aside0.mk (below_step HB.out hb9); clear hb9)
    go_ret2
    exact ⟨_, rfl, ⟨_, rfl⟩, HB9.out⟩
  have b1 : (s.toList == ([] : List UInt8)) = false := beq_eq_false_iff_ne.2 h1
  have HS : Aside0 (DurAt w w s 0 0 (durF s.data.toList)) := ⟨⟨hs, by omega, by omega, by omega, ⟨s.data.toList.length + 1, by rw [lenR]; omega, by
    unfold durF
    rw [ByteArray.toList_eq] at h0 h1
    rw [if_neg h0, if_neg h1]⟩, Below.refl _ _⟩⟩
  generalize durF s.data.toList = tot at *
  clear h0 h1 hs
  go_enter Tryd.func41, Tryd.ntmps41
  go_wp2
  go_loopw [0, 4, 5] (fun v0 v4 v5 wr => ∃ (t : ByteArray) (dur : Nat) (last : Int), v0 = .string t ∧ v4 = .int .u64 dur ∧ v5 = .int .i64 last ∧ Aside0 (DurAt w wr t dur last tot)) (fun v0 _ _ _ => match v0 with | .string t => t.size | _ => 0)
  case atStart => exact ⟨s, 0, 0, rfl, rfl, rfl, HS⟩
  case round =>
    obtain ⟨t, dur, last, rfl, rfl, rfl, HE⟩ := hrel
    clear HS b0 b1
    obtain ⟨wo, rfl⟩ : ∃ wo : World, wo = wr := ⟨_, rfl⟩
    have hts := HE.out.size
    have hdur := HE.out.dur_le
    have hl0 := HE.out.l0
    have hl7 := HE.out.l7
    clear HB
    have HB := Aside0.mk HE.out.bel
    have HTW := Aside0.mk (HTB.out.below HE.out.bel)
    by_cases ht : t.toList = []
    · have b0 : (t.toList == ([] : List UInt8)) = true := beq_iff_eq.2 ht
      have b1 : (t.toList != ([] : List UInt8)) = false := bne_eq_false_iff_eq.2 ht
      have b2 : t.toList.isEmpty = true := by rw [ht]; rfl
      have HT : Aside0 (tot = some dur) := ⟨by
        obtain ⟨k, hk, hd⟩ := HE.out.ex
        obtain ⟨j, rfl⟩ : ∃ j, k = j + 1 := ⟨k - 1, by omega⟩
        rw [ByteArray.toList_eq] at ht
        rw [ht] at hd
        exact hd.symm⟩
      clear ht
      go_wp2
      go_ret2
      exact ⟨_, by rw [HT.out]; rfl, by rw [HT.out]; rfl, HB.out⟩
    · have b0 : (t.toList == ([] : List UInt8)) = false := beq_eq_false_iff_ne.2 ht
      have b1 : (t.toList != ([] : List UInt8)) = true := bne_iff_ne.2 ht
      have b2 : t.toList.isEmpty = false := by simpa using ht
      have hpos : 0 < t.size := by
        rcases Nat.eq_zero_or_pos t.size with h | h
        · exact absurd (by rw [ByteArray.toList_eq]; exact List.eq_nil_of_length_eq_zero (by rw [lenR]; exact h)) ht
        · exact h
      have HW := Aside0.mk (HE.out.way hpos)
      clear ht
      rcases HW.out with ⟨h, ht⟩ | ⟨h, hr, ht⟩ | ⟨v, h, hr, hm, ht⟩ | ⟨v, h, hr, hm, hu, ht⟩ | ⟨v, pos, mult, h, hr, hm, hu, ht⟩
      · have HD0 : Aside0 (isDig t[0] = false) := ⟨by have := nDig_at t (by omega); simp only [h] at this; exact this⟩
        have HT := Aside0.mk ht
        clear HW h ht
        go_wp2_with (first | (go_at_call 71; refine (isdig_calls t 0 hpos _).mono ?_; rintro e w' ⟨rfl, rfl⟩; rw [HD0.out]) | (go_at_call 70; refine (errNew_calls _ _).mono ?_; rintro e w9 ⟨g9, rfl, hb9⟩; have HB9 := Aside0.mk (below_step HB.out hb9); clear hb9))
        go_ret2
        exact ⟨_, by rw [HT.out]; rfl, by rw [HT.out]; exact ⟨_, rfl⟩, HB9.out⟩
      · have HT := Aside0.mk ht
        have HR := Aside0.mk hr
        clear ht hr
        have HD0 : Aside0 (isDig t[0] = true) := ⟨nDig_lt t 0 h⟩
        have hnle := nDig_le t
        have hxs : (t.extract 0 (nDig t)).size ≤ 100000 := by rw [ByteArray.size_extract]; omega
        clear HW
        go_wp2_with (first | (go_at_call 71; refine (isdig_calls t 0 hpos _).mono ?_; rintro e w' ⟨rfl, rfl⟩; rw [HD0.out]))
        go_loop [6] (fun v6 => ∃ i : Nat, i ≤ nDig t ∧ v6 = .int .i64 i) (fun v6 => t.size - (intOf v6).toNat)
        case atStart => exact ⟨0, Nat.zero_le _, rfl⟩
        case round =>
          obtain ⟨i, hi, rfl⟩ := hrel
          by_cases hin : i < nDig t
          · have hit : i < t.size := by omega
            have HDi : Aside0 (isDig t[i] = true) := ⟨nDig_lt t i hin⟩
            go_wp2_with (go_at_call 71; refine (isdig_calls t i hit _).mono ?_; rintro e w' ⟨rfl, rfl⟩; rw [HDi.out])
            go_round
            case rel => exact ⟨i + 1, by omega, by go_num⟩
            case measure => simp [intOf]; omega
          · obtain rfl : i = nDig t := by omega
            clear HD0
            rcases Nat.lt_or_ge (nDig t) t.size with hit | hit
            all_goals
              go_wp2_with (first | (go_at_call 71; refine (isdig_calls t (nDig t) (by assumption) _).mono ?_; rintro e w' ⟨rfl, rfl⟩; rw [nDig_at t (by assumption)]) | (go_at_call 72; refine (uintRange_calls (t.extract 0 (nDig t)) hxs HR.out _ HTW.out).mono ?_; rintro e w2 ⟨N2, rfl, hb2⟩; have HB2 := Aside0.mk (below_step HB.out hb2); clear HB hb2; have HB := HB2; clear HB2) | (go_at_call 70; refine (errNew_calls _ _).mono ?_; rintro e w9 ⟨g9, rfl, hb9⟩; have HB9 := Aside0.mk (below_step HB.out hb9); clear hb9))
              go_ret2
              exact ⟨_, by rw [HT.out]; rfl, by rw [HT.out]; exact ⟨_, rfl⟩, HB9.out⟩
      · have HT := Aside0.mk ht
        have HR := Aside0.mk hr
        have z0 : ((nNon (t.extract (nDig t) t.size) : Int) == 0) = true := beq_iff_eq.2 (by omega)
        clear ht hr hm
        have HD0 : Aside0 (isDig t[0] = true) := ⟨nDig_lt t 0 h⟩
        have hnle := nDig_le t
        have hxs : (t.extract 0 (nDig t)).size ≤ 100000 := by rw [ByteArray.size_extract]; omega
        clear HW
        go_wp2_with (first | (go_at_call 71; refine (isdig_calls t 0 hpos _).mono ?_; rintro e w' ⟨rfl, rfl⟩; rw [HD0.out]))
        go_loop [6] (fun v6 => ∃ i : Nat, i ≤ nDig t ∧ v6 = .int .i64 i) (fun v6 => t.size - (intOf v6).toNat)
        case atStart => exact ⟨0, Nat.zero_le _, rfl⟩
        case round =>
          obtain ⟨i, hi, rfl⟩ := hrel
          by_cases hin : i < nDig t
          · have hit : i < t.size := by omega
            have HDi : Aside0 (isDig t[i] = true) := ⟨nDig_lt t i hin⟩
            go_wp2_with (go_at_call 71; refine (isdig_calls t i hit _).mono ?_; rintro e w' ⟨rfl, rfl⟩; rw [HDi.out])
            go_round
            case rel => exact ⟨i + 1, by omega, by go_num⟩
            case measure => simp [intOf]; omega
          · obtain rfl : i = nDig t := by omega
            clear HD0
            rcases Nat.lt_or_ge (nDig t) t.size with hit | hit
            all_goals
              go_wp2_with (first | (go_at_call 71; refine (isdig_calls t (nDig t) (by assumption) _).mono ?_; rintro e w' ⟨rfl, rfl⟩; rw [nDig_at t (by assumption)]) | (go_at_call 72; refine (uintOk_calls (t.extract 0 (nDig t)) hxs v HR.out _).mono ?_; rintro e w2 ⟨rfl, hb2⟩; have HB2 := Aside0.mk (below_step HB.out hb2); clear HB hb2; have HB := HB2; clear HB2))
              have hrt : (t.extract (nDig t) t.size).size + nDig t ≤ t.size := by rw [ByteArray.size_extract]; omega
              have hrb : (t.extract (nDig t) t.size).size ≤ 100000 := by rw [ByteArray.size_extract]; omega
              generalize t.extract (nDig t) t.size = r at *
              have hnr := nNon_le r
              go_loop [6] (fun v6 => ∃ i : Nat, i ≤ nNon r ∧ v6 = .int .i64 i) (fun v6 => r.size - (intOf v6).toNat)
              case atStart => exact ⟨0, Nat.zero_le _, rfl⟩
              case round =>
                obtain ⟨i, hi, rfl⟩ := hrel
                by_cases hin : i < nNon r
                · have hir : i < r.size := by omega
                  have HDi : Aside0 (isDig r[i] = false) := ⟨nNon_lt r i hin⟩
                  go_wp2_with (go_at_call 71; refine (isdig_calls r i hir _).mono ?_; rintro e w' ⟨rfl, rfl⟩; rw [HDi.out])
                  go_round
                  case rel => exact ⟨i + 1, by omega, by go_num⟩
                  case measure => simp [intOf]; omega
                · obtain rfl : i = nNon r := by omega
                  rcases Nat.lt_or_ge (nNon r) r.size with hir | hir
                  all_goals
                    go_wp2_with (first | (go_at_call 71; refine (isdig_calls r (nNon r) (by assumption) _).mono ?_; rintro e w' ⟨rfl, rfl⟩; rw [nNon_at r (by assumption)]) | (go_at_call 70; refine (errNew_calls _ _).mono ?_; rintro e w9 ⟨g9, rfl, hb9⟩; have HB9 := Aside0.mk (below_step HB.out hb9); clear hb9))
                    go_ret2
                    exact ⟨_, by rw [HT.out]; rfl, by rw [HT.out]; exact ⟨_, rfl⟩, HB9.out⟩
      · have HT := Aside0.mk ht
        have HR := Aside0.mk hr
        have HU := Aside0.mk hu
        have hit0 : nDig t < t.size := by have z1 := nNon_le (t.extract (nDig t) t.size); have z2 := extR t (nDig t); omega
        have z0 : ((nNon (t.extract (nDig t) t.size) : Int) == 0) = false := beq_eq_false_iff_ne.2 (by omega)
        have HPV : Aside0 (unitP ((t.extract (nDig t) t.size).extract 0 (nNon (t.extract (nDig t) t.size))).data.toList = (0, 0)) := ⟨by unfold unitP; rw [hu]; rfl⟩
        clear ht hr hm hu
        have HD0 : Aside0 (isDig t[0] = true) := ⟨nDig_lt t 0 h⟩
        have hnle := nDig_le t
        have hxs : (t.extract 0 (nDig t)).size ≤ 100000 := by rw [ByteArray.size_extract]; omega
        clear HW
        go_wp2_with (first | (go_at_call 71; refine (isdig_calls t 0 hpos _).mono ?_; rintro e w' ⟨rfl, rfl⟩; rw [HD0.out]))
        go_loop [6] (fun v6 => ∃ i : Nat, i ≤ nDig t ∧ v6 = .int .i64 i) (fun v6 => t.size - (intOf v6).toNat)
        case atStart => exact ⟨0, Nat.zero_le _, rfl⟩
        case round =>
          obtain ⟨i, hi, rfl⟩ := hrel
          by_cases hin : i < nDig t
          · have hit : i < t.size := by omega
            have HDi : Aside0 (isDig t[i] = true) := ⟨nDig_lt t i hin⟩
            go_wp2_with (go_at_call 71; refine (isdig_calls t i hit _).mono ?_; rintro e w' ⟨rfl, rfl⟩; rw [HDi.out])
            go_round
            case rel => exact ⟨i + 1, by omega, by go_num⟩
            case measure => simp [intOf]; omega
          · obtain rfl : i = nDig t := by omega
            clear HD0
            have hit := hit0
            all_goals
              go_wp2_with (first | (go_at_call 71; refine (isdig_calls t (nDig t) (by assumption) _).mono ?_; rintro e w' ⟨rfl, rfl⟩; rw [nDig_at t (by assumption)]) | (go_at_call 72; refine (uintOk_calls (t.extract 0 (nDig t)) hxs v HR.out _).mono ?_; rintro e w2 ⟨rfl, hb2⟩; have HB2 := Aside0.mk (below_step HB.out hb2); clear HB hb2; have HB := HB2; clear HB2))
              have hrt : (t.extract (nDig t) t.size).size + nDig t ≤ t.size := by rw [ByteArray.size_extract]; omega
              have hrb : (t.extract (nDig t) t.size).size ≤ 100000 := by rw [ByteArray.size_extract]; omega
              generalize t.extract (nDig t) t.size = r at *
              have hnr := nNon_le r
              go_loop [6] (fun v6 => ∃ i : Nat, i ≤ nNon r ∧ v6 = .int .i64 i) (fun v6 => r.size - (intOf v6).toNat)
              case atStart => exact ⟨0, Nat.zero_le _, rfl⟩
              case round =>
                obtain ⟨i, hi, rfl⟩ := hrel
                by_cases hin : i < nNon r
                · have hir : i < r.size := by omega
                  have HDi : Aside0 (isDig r[i] = false) := ⟨nNon_lt r i hin⟩
                  go_wp2_with (go_at_call 71; refine (isdig_calls r i hir _).mono ?_; rintro e w' ⟨rfl, rfl⟩; rw [HDi.out])
                  go_round
                  case rel => exact ⟨i + 1, by omega, by go_num⟩
                  case measure => simp [intOf]; omega
                · obtain rfl : i = nNon r := by omega
                  rcases Nat.lt_or_ge (nNon r) r.size with hir | hir
                  all_goals
                    have hur : (r.extract 0 (nNon r)).size ≤ 1000000 := by rw [ByteArray.size_extract]; omega
                    go_wp2_with (first | (go_at_call 71; refine (isdig_calls r (nNon r) (by assumption) _).mono ?_; rintro e w' ⟨rfl, rfl⟩; rw [nNon_at r (by assumption)]) | (go_at_call 73; refine (unitMap_calls (r.extract 0 (nNon r)) hur _).mono ?_; rintro e w3 ⟨rfl, hb3⟩; rw [HU.out, HPV.out]; have HB2 := Aside0.mk (below_step HB.out hb3); have HB3 := Aside0.mk (below_alloc HB2.out (.cells #[.int .i64 0, .int .u64 0] 109)); clear HB hb3 HB2; have HB := HB3; clear HB3) | (go_at_call 70; refine (errNew_calls _ _).mono ?_; rintro e w9 ⟨g9, rfl, hb9⟩; have HB9 := Aside0.mk (below_step HB.out hb9); clear hb9))
                    go_ret2
                    exact ⟨_, by rw [HT.out]; rfl, by rw [HT.out]; exact ⟨_, rfl⟩, HB9.out⟩
      · have HT := Aside0.mk ht
        have HR := Aside0.mk hr
        have HU := Aside0.mk hu
        have hit0 : nDig t < t.size := by have z1 := nNon_le (t.extract (nDig t) t.size); have z2 := extR t (nDig t); omega
        have z0 : ((nNon (t.extract (nDig t) t.size) : Int) == 0) = false := beq_eq_false_iff_ne.2 (by omega)
        have hum := unitT_mult hu
        obtain ⟨hm0, hm1, hp1, hp7⟩ := hum
        have HPV : Aside0 (unitP ((t.extract (nDig t) t.size).extract 0 (nNon (t.extract (nDig t) t.size))).data.toList = (pos, (mult : Int))) := ⟨by unfold unitP; rw [hu]; rfl⟩
        have hv64 := Lib.parseUintB_le hr
        clear ht hr hm hu
        have HD0 : Aside0 (isDig t[0] = true) := ⟨nDig_lt t 0 h⟩
        have hnle := nDig_le t
        have hxs : (t.extract 0 (nDig t)).size ≤ 100000 := by rw [ByteArray.size_extract]; omega
        clear HW
        go_wp2_with (first | (go_at_call 71; refine (isdig_calls t 0 hpos _).mono ?_; rintro e w' ⟨rfl, rfl⟩; rw [HD0.out]))
        go_loop [6] (fun v6 => ∃ i : Nat, i ≤ nDig t ∧ v6 = .int .i64 i) (fun v6 => t.size - (intOf v6).toNat)
        case atStart => exact ⟨0, Nat.zero_le _, rfl⟩
        case round =>
          obtain ⟨i, hi, rfl⟩ := hrel
          by_cases hin : i < nDig t
          · have hit : i < t.size := by omega
            have HDi : Aside0 (isDig t[i] = true) := ⟨nDig_lt t i hin⟩
            go_wp2_with (go_at_call 71; refine (isdig_calls t i hit _).mono ?_; rintro e w' ⟨rfl, rfl⟩; rw [HDi.out])
            go_round
            case rel => exact ⟨i + 1, by omega, by go_num⟩
            case measure => simp [intOf]; omega
          · obtain rfl : i = nDig t := by omega
            clear HD0
            have hit := hit0
            all_goals
              go_wp2_with (first | (go_at_call 71; refine (isdig_calls t (nDig t) (by assumption) _).mono ?_; rintro e w' ⟨rfl, rfl⟩; rw [nDig_at t (by assumption)]) | (go_at_call 72; refine (uintOk_calls (t.extract 0 (nDig t)) hxs v HR.out _).mono ?_; rintro e w2 ⟨rfl, hb2⟩; have HB2 := Aside0.mk (below_step HB.out hb2); clear HB hb2; have HB := HB2; clear HB2))
              have hrt : (t.extract (nDig t) t.size).size + nDig t ≤ t.size := by rw [ByteArray.size_extract]; omega
              have hrb : (t.extract (nDig t) t.size).size ≤ 100000 := by rw [ByteArray.size_extract]; omega
              generalize t.extract (nDig t) t.size = r at *
              have hnr := nNon_le r
              go_loop [6] (fun v6 => ∃ i : Nat, i ≤ nNon r ∧ v6 = .int .i64 i) (fun v6 => r.size - (intOf v6).toNat)
              case atStart => exact ⟨0, Nat.zero_le _, rfl⟩
              case round =>
                obtain ⟨i, hi, rfl⟩ := hrel
                by_cases hin : i < nNon r
                · have hir : i < r.size := by omega
                  have HDi : Aside0 (isDig r[i] = false) := ⟨nNon_lt r i hin⟩
                  go_wp2_with (go_at_call 71; refine (isdig_calls r i hir _).mono ?_; rintro e w' ⟨rfl, rfl⟩; rw [HDi.out])
                  go_round
                  case rel => exact ⟨i + 1, by omega, by go_num⟩
                  case measure => simp [intOf]; omega
                · obtain rfl : i = nNon r := by omega
                  rcases Nat.lt_or_ge (nNon r) r.size with hir | hir
                  all_goals
                    have hur : (r.extract 0 (nNon r)).size ≤ 1000000 := by rw [ByteArray.size_extract]; omega
                    go_wp2_with (first | (go_at_call 71; refine (isdig_calls r (nNon r) (by assumption) _).mono ?_; rintro e w' ⟨rfl, rfl⟩; rw [nNon_at r (by assumption)]) | (go_at_call 73; refine (unitMap_calls (r.extract 0 (nNon r)) hur _).mono ?_; rintro e w3 ⟨rfl, hb3⟩; rw [HU.out, HPV.out]; have HB2 := Aside0.mk (below_step HB.out hb3); have HB3 := Aside0.mk (below_alloc HB2.out (.cells #[.int .i64 pos, .int .u64 (mult : Int)] 109)); clear HB hb3 HB2; have HB := HB3; clear HB3) | (go_at_call 70; refine (errNew_calls _ _).mono ?_; rintro e w9 ⟨g9, rfl, hb9⟩; have HB9 := Aside0.mk (below_step HB.out hb9); clear hb9))
                    all_goals first
                      | (go_ret2
                         have hT0 : tot = none := dur_none HT.out hm0 hdur (by first | exact Or.inl (by assumption) | exact Or.inr (Or.inl (by assumption)) | exact Or.inr (Or.inr ⟨by assumption, by assumption⟩))
                         exact ⟨_, by rw [hT0]; rfl, by rw [hT0]; exact ⟨_, rfl⟩, HB9.out⟩)
                      | (have HN := Aside0.mk (dur_next HT.out hm0 hdur (by assumption) (by assumption) (by assumption))
                         have HNA : Aside0 (DurAt w (w3.alloc (.cells #[.int .i64 pos, .int .u64 (mult : Int)] 109)) (r.extract (nNon r) r.size) (dur + v * mult) pos tot) := ⟨⟨by rw [ByteArray.size_extract]; omega, HN.out.2.1, by omega, hp7, by obtain ⟨k, hk, hd⟩ := HN.out.2.2; exact ⟨k, by rw [ByteArray.size_extract]; omega, hd⟩, HB.out⟩⟩
                         have hsz := extR r (nNon r)
                         go_roundw
                         case rel => exact ⟨_, _, _, rfl, by rw [HN.out.1], rfl, HNA⟩
                         case measure => (show (r.extract (nNon r) r.size).size < t.size; rw [extR]; omega))
end Go.Proofs.YtmmcibeeojfplaaDoor.Q
