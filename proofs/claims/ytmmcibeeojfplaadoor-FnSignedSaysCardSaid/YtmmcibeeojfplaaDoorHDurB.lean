/- impl.ReadDuration, impl.ReadSigned. Condition: a text of at most 100000 bytes; strconv's errors as the library lays them. -/
import Derived.Test.YtmmcibeeojfplaaDoorHDur
set_option linter.unusedVariables false
set_option linter.unusedSimpArgs false
namespace Go.Proofs.YtmmcibeeojfplaaDoor.Q
open Go.RowKit Go.Lib Go.Proofs.YtmmcibeeojfplaaDoorW.PrintWords Go.Proofs.YtmmcibeeojfplaaDoorW.PrintLast Go.Proofs.YtmmcibeeojfplaaDoorW.PrintMore
attribute [local go_sem] max2_int min2_int max_two min_two max_three min_three max_four min_four
theorem durR_le : ∀ (k : Nat) (l : List UInt8) (dur : Nat) (last : Int) (n : Nat), dur ≤ 9223372036854775807 → durR k l dur last = some n → n ≤ 9223372036854775807
  | 0, _, _, _, _, _, h => by simp [durR] at h
  | k + 1, l, dur, last, n, hd, h => by
    simp only [durR] at h
    split at h
    · injection h with h; omega
    split at h
    · cases h
    split at h
    · split at h
      · cases h
      split at h
      · cases h
      split at h
      · cases h
      split at h
      · cases h
      split at h
      · cases h
      exact durR_le k _ _ _ n (by omega) h
    · cases h
theorem durF_le {l : List UInt8} {n : Nat} (h : durF l = some n) : n ≤ 9223372036854775807 := by
  unfold durF at h
  split at h
  · injection h with h; omega
  split at h
  · cases h
  exact durR_le _ _ _ _ _ (by omega) h
theorem durF_getD (l : List UInt8) : (durF l).getD 0 ≤ 9223372036854775807 := by
  cases h : durF l with
  | none => simp
  | some n => exact durF_le h
def rdF (l : List UInt8) : Int × Bool := (((durF l).getD 0 : Nat), (durF l).isSome)
def impl_ReadDuration.f (a0 : ByteArray) : Option (Int × Bool) := if a0.size ≤ 100000 then some (rdF a0.data.toList) else none
set_option maxHeartbeats 1000000 in
theorem impl_ReadDuration.calls (a0 : ByteArray) (r1 : Int) (r2 : Bool) (w : World) (tb : TBe w) (h : impl_ReadDuration.f a0 = some (r1, r2)) :
    Calls Tryd.prog 13 #[.string a0] w fun e w' => e = .returned (.tuple #[.int .i64 r1, .bool r2]) ∧ Below w.heap.size w w' := by
  unfold impl_ReadDuration.f at h
  by_cases hs : a0.size ≤ 100000
  · rw [if_pos hs] at h
    have HP := Aside0.mk (parse_calls a0 hs w tb)
    obtain ⟨rfl, rfl⟩ : (rdF a0.data.toList).1 = r1 ∧ (rdF a0.data.toList).2 = r2 := by rw [Option.some.inj h]; exact ⟨rfl, rfl⟩
    clear h
    unfold rdF
    generalize durF a0.data.toList = D at *
    cases D with
    | none =>
      go_enter Tryd.func13, Tryd.ntmps13
      go_wp2_with fail
      refine HP.out.mono ?_
      rintro e w1 ⟨v, rfl, ⟨g, rfl⟩, hb⟩
      have HB := Aside0.mk hb
      clear hb
      go_wp2
      go_ret2
      exact ⟨rfl, HB.out⟩
    | some n =>
      go_enter Tryd.func13, Tryd.ntmps13
      go_wp2_with fail
      refine HP.out.mono ?_
      rintro e w1 ⟨v, rfl, hv, hb⟩
      have hv2 : v = .nilIface := hv
      subst hv2
      have HB := Aside0.mk hb
      clear hb hv
      go_wp2
      go_ret2
      exact ⟨rfl, HB.out⟩
  · rw [if_neg hs] at h
    cases h
def rsF (l : List UInt8) : Int × Bool := match l with
  | 45 :: r => (-(((durF r).getD 0 : Nat) : Int), (durF r).isSome)
  | l => rdF l
theorem rsF_minus (r : List UInt8) : rsF (45 :: r) = (-(((durF r).getD 0 : Nat) : Int), (durF r).isSome) := rfl
theorem rsF_plain (l : List UInt8) (h : l.head? ≠ some 45) : rsF l = rdF l := by
  unfold rsF
  split
  · simp at h
  · rfl
set_option maxHeartbeats 2000000 in
theorem parseNeg_calls (s : ByteArray) (hs : s.size ≤ 100000) (w : World) (tb : TBe w) :
    Calls Tryd.prog 43 #[.string s] w fun e w' => ∃ v, e = .returned (.tuple #[.int .i64 (rsF s.data.toList).1, v]) ∧ errIs (rsF s.data.toList).2 v ∧ Below w.heap.size w w' := by
  by_cases h1 : s.toList = []
  · have b1 : (s.toList == ([] : List UInt8)) = true := beq_iff_eq.2 h1
    have HR : Aside0 (rsF s.data.toList = rdF s.data.toList) := ⟨rsF_plain _ (by rw [ByteArray.toList_eq] at h1; rw [h1]; simp)⟩
    rw [HR.out]
    have HP := Aside0.mk (parse_calls s hs w tb)
    unfold rdF
    clear h1 tb
    generalize durF s.data.toList = D at *
    go_enter Tryd.func43, Tryd.ntmps43
    go_wp2_with fail
    refine HP.out.mono ?_
    rintro e w1 ⟨v, rfl, hv, hb⟩
    have HB := Aside0.mk (And.intro hv hb)
    clear hb hv
    go_wp2
    go_ret2
    exact ⟨_, rfl, HB.out.1, HB.out.2⟩
  have b1 : (s.toList == ([] : List UInt8)) = false := beq_eq_false_iff_ne.2 h1
  have hpos : 0 < s.size := by
    rcases Nat.eq_zero_or_pos s.size with h | h
    · exact absurd (by rw [ByteArray.toList_eq]; exact List.eq_nil_of_length_eq_zero (by rw [lenR]; exact h)) h1
    · exact h
  have hl : s.data.toList = s[0] :: s.data.toList.drop 1 := by
    have := List.drop_eq_getElem_cons (l := s.data.toList) (i := 0) (by rw [lenR]; exact hpos)
    rw [List.drop_zero] at this
    exact this
  by_cases h45 : s[0] = 45
  · have c1 : ((s[0].toNat : Int) == 45) = true := by rw [h45]; rfl
    have c2 : ((s[0].toNat : Int) != 45) = false := by rw [h45]; rfl
    have HR : Aside0 (rsF s.data.toList = (-(((durF (s.extract 1 s.size).data.toList).getD 0 : Nat) : Int), (durF (s.extract 1 s.size).data.toList).isSome)) := ⟨by rw [ex_dropR, hl, h45]; exact rsF_minus _⟩
    rw [HR.out]
    have HP := Aside0.mk (parse_calls (s.extract 1 s.size) (by rw [extR]; omega) w tb)
    have hg := durF_getD (s.extract 1 s.size).data.toList
    clear h1 tb hl h45
    generalize durF (s.extract 1 s.size).data.toList = D at *
    generalize D.getD 0 = n at *
    go_enter Tryd.func43, Tryd.ntmps43
    go_wp2_with fail
    refine HP.out.mono ?_
    rintro e w1 ⟨v, rfl, hv, hb⟩
    have HB := Aside0.mk (And.intro hv hb)
    clear hb hv
    go_wp2
    go_ret2
    exact ⟨_, rfl, HB.out.1, HB.out.2⟩
  · have hn : (s[0].toNat : Int) ≠ 45 := fun e => h45 (UInt8.toNat_inj.1 (by show s[0].toNat = 45; omega))
    have c1 : ((s[0].toNat : Int) == 45) = false := beq_eq_false_iff_ne.2 hn
    have c2 : ((s[0].toNat : Int) != 45) = true := bne_iff_ne.2 hn
    have HR : Aside0 (rsF s.data.toList = rdF s.data.toList) := ⟨rsF_plain _ (by rw [hl]; simpa using h45)⟩
    rw [HR.out]
    have HP := Aside0.mk (parse_calls s hs w tb)
    unfold rdF
    clear h1 tb hl h45 hn
    generalize durF s.data.toList = D at *
    go_enter Tryd.func43, Tryd.ntmps43
    go_wp2_with fail
    refine HP.out.mono ?_
    rintro e w1 ⟨v, rfl, hv, hb⟩
    have HB := Aside0.mk (And.intro hv hb)
    clear hb hv
    go_wp2
    go_ret2
    exact ⟨_, rfl, HB.out.1, HB.out.2⟩
def impl_ReadSigned.f (a0 : ByteArray) : Option (Int × Bool) := if a0.size ≤ 100000 then some (rsF a0.data.toList) else none
theorem rsF_none {l : List UInt8} (h : (rsF l).2 = false) : (rsF l).1 = 0 := by
  have k : ∀ d : Option Nat, d.isSome = false → d.getD 0 = 0 := fun d hd => by cases d <;> simp at hd ⊢
  unfold rsF at *
  split at h
  · rw [k _ h]; rfl
  · show (((durF l).getD 0 : Nat) : Int) = 0
    rw [k _ h]; rfl
set_option maxHeartbeats 1000000 in
theorem impl_ReadSigned.calls (a0 : ByteArray) (r1 : Int) (r2 : Bool) (w : World) (tb : TBe w) (h : impl_ReadSigned.f a0 = some (r1, r2)) :
    Calls Tryd.prog 16 #[.string a0] w fun e w' => e = .returned (.tuple #[.int .i64 r1, .bool r2]) ∧ Below w.heap.size w w' := by
  unfold impl_ReadSigned.f at h
  by_cases hs : a0.size ≤ 100000
  · rw [if_pos hs] at h
    have HP := Aside0.mk (parseNeg_calls a0 hs w tb)
    have HZ := Aside0.mk (@rsF_none a0.data.toList)
    have e := Option.some.inj h
    clear h tb
    generalize rsF a0.data.toList = D at *
    subst e
    cases r2 with
    | false =>
      obtain rfl := HZ.out rfl
      go_enter Tryd.func16, Tryd.ntmps16
      go_wp2_with fail
      refine HP.out.mono ?_
      rintro e w1 ⟨v, rfl, ⟨g, rfl⟩, hb⟩
      have HB := Aside0.mk hb
      clear hb
      go_wp2
      go_ret2
      exact ⟨rfl, HB.out⟩
    | true =>
      go_enter Tryd.func16, Tryd.ntmps16
      go_wp2_with fail
      refine HP.out.mono ?_
      rintro e w1 ⟨v, rfl, hv, hb⟩
      have hv2 : v = .nilIface := hv
      subst hv2
      have HB := Aside0.mk hb
      clear hb hv
      go_wp2
      go_ret2
      exact ⟨rfl, HB.out⟩
  · rw [if_neg hs] at h
    cases h
end Go.Proofs.YtmmcibeeojfplaaDoor.Q
