/- The names of the escaping schemes: the law FnSchemes over the functions that the program comes to, for every input. No condition. -/
import Derived.Test.YtbcijcmmpbkkbaaQlawsFnSchemes
namespace Go.Proofs.Ytbcijcmmpbkkbaa.Q
open Go.RowKit Go.Proofs.YtbcijcmmpbkkbaaW.PrintWords Go.Proofs.YtbcijcmmpbkkbaaW.PrintLast Go.Proofs.YtbcijcmmpbkkbaaW.PrintMore
theorem tl (b : ByteArray) : b.toList = b.data.toList := Lib.toList_data b
def scL : List ByteArray := [sAllow, sUnder, sDots, sValues]
theorem sch0 : schV sAllow = (0, true) := by unfold schV; rw [tl]; rfl
theorem sch1 : schV sUnder = (1, true) := by unfold schV; rw [tl]; rfl
theorem sch2 : schV sDots = (2, true) := by unfold schV; rw [tl]; rfl
theorem sch3 : schV sValues = (3, true) := by unfold schV; rw [tl]; rfl
theorem sch_round (k : Nat) (a : ByteArray) (x : Int) (i : Int) (s : ByteArray) (hi : i = 0 ∧ s = sAllow ∨ i = 1 ∧ s = sUnder ∨ i = 2 ∧ s = sDots ∨ i = 3 ∧ s = sValues) :
    laws_FnSchemes.l0 (k + 2) a scL x 4 i = if a.toList = s.toList then laws_FnSchemes.l0 k a scL i 4 (i + 1) else laws_FnSchemes.l0 k a scL x 4 (i + 1) := by
  have hr : rdOf ByteArray.empty scL i = s := by rcases hi with ⟨rfl, rfl⟩ | ⟨rfl, rfl⟩ | ⟨rfl, rfl⟩ | ⟨rfl, rfl⟩ <;> rfl
  have h1 : impl_SchemeOf.f s = some (i, true) := by rcases hi with ⟨rfl, rfl⟩ | ⟨rfl, rfl⟩ | ⟨rfl, rfl⟩ | ⟨rfl, rfl⟩ <;> exact congrArg some (by first | exact sch0 | exact sch1 | exact sch2 | exact sch3)
  have h2 : impl_SchemeText.f i = some s := by rcases hi with ⟨rfl, rfl⟩ | ⟨rfl, rfl⟩ | ⟨rfl, rfl⟩ | ⟨rfl, rfl⟩ <;> rfl
  have h3 : spec_SchemeText.f i = some s := by rcases hi with ⟨rfl, rfl⟩ | ⟨rfl, rfl⟩ | ⟨rfl, rfl⟩ | ⟨rfl, rfl⟩ <;> rfl
  have hb : 0 ≤ i ∧ i < 4 := by rcases hi with ⟨rfl, _⟩ | ⟨rfl, _⟩ | ⟨rfl, _⟩ | ⟨rfl, _⟩ <;> omega
  have hl : (scL.length : Int) = 4 := rfl
  have hw : wrap64 (i + 1) = i + 1 := by unfold wrap64; omega
  simp only [laws_FnSchemes.l0, laws_FnSchemes.j1]
  rw [if_pos hb.2, if_pos hb.1, if_pos (by omega), hr, h1, h2, h3]
  simp only [Option.bind_some, if_true]
  have e : (i != i) = false := by simp
  rw [e, if_neg (by simp), if_pos hb.1, if_pos (by omega), hw]
theorem spec_is (k : Nat) (a : ByteArray) : spec_SchemeOf.f (k + 5) a = some (if a.toList = sAllow.toList then (0, 1) else if a.toList = sUnder.toList then (1, 1) else if a.toList = sDots.toList then (2, 1) else if a.toList = sValues.toList then (3, 1) else (0, 0)) := by
  have t0 : spec_SchemeText.f 0 = some sAllow := rfl
  have t1 : spec_SchemeText.f 1 = some sUnder := rfl
  have t2 : spec_SchemeText.f 2 = some sDots := rfl
  have t3 : spec_SchemeText.f 3 = some sValues := rfl
  have w1 : wrap64 (0 + 1) = 1 := by unfold wrap64; omega
  have w2 : wrap64 (1 + 1) = 2 := by unfold wrap64; omega
  have w3 : wrap64 (2 + 1) = 3 := by unfold wrap64; omega
  have w4 : wrap64 (3 + 1) = 4 := by unfold wrap64; omega
  unfold spec_SchemeOf.f
  simp only [spec_SchemeOf.l0, t0, t1, t2, t3, w1, w2, w3, w4, Option.bind_some]
  rw [if_pos (by omega)]
  split
  · rfl
  · rw [if_pos (by omega)]
    split
    · rfl
    · rw [if_pos (by omega)]
      split
      · rfl
      · rw [if_pos (by omega)]
        split
        · rfl
        · rw [if_neg (by omega)]
theorem impl_is (a : ByteArray) : impl_SchemeOf.f a = some (if a.toList = sAllow.toList then (0, true) else if a.toList = sUnder.toList then (1, true) else if a.toList = sDots.toList then (2, true) else if a.toList = sValues.toList then (3, true) else (0, false)) := by
  have e0 : sAllow.toList = lAllow := Lib.toList_data _
  have e1 : sUnder.toList = lUnder := Lib.toList_data _
  have e2 : sDots.toList = lDots := Lib.toList_data _
  have e3 : sValues.toList = lValues := Lib.toList_data _
  unfold impl_SchemeOf.f schV
  rw [e0, e1, e2, e3]
  simp only [beq_iff_eq]
  by_cases h : a.toList.isEmpty = true
  · have h' : a.toList = [] := List.isEmpty_iff.1 h
    rw [if_pos h, h', if_neg (by decide), if_neg (by decide), if_neg (by decide), if_neg (by decide)]
  · rw [if_neg h]
theorem laws_FnSchemes.pure : ∀ (a0 : ByteArray), a0.size ≤ 140737488351232 → ∃ k, laws_FnSchemes.f k a0 = some true := by
  intro a _
  refine ⟨20, ?_⟩
  unfold laws_FnSchemes.f
  split
  · rfl
  · simp only [Option.bind_some]
    show laws_FnSchemes.l0 20 a scL (-1) 4 0 = some true
    have e0 : sAllow.toList = lAllow := Lib.toList_data _
    have e1 : sUnder.toList = lUnder := Lib.toList_data _
    have e2 : sDots.toList = lDots := Lib.toList_data _
    have e3 : sValues.toList = lValues := Lib.toList_data _
    have fin : ∀ x : Int, laws_FnSchemes.l0 12 a scL x 4 4 = (impl_SchemeOf.f a).bind fun bt183 => ((spec_SchemeOf.f 11 a).bind fun bt185 => (if (bt183.2 == (decide (x ≥ 0))) = true then (if bt183.2 = true then (if bt183.1 = x then (if bt185.2 = 2 then (some true) else (if (bt183.2 == (bt185.2 == 1)) = true then (some (bt185.1 == bt183.1)) else (some false))) else (some false)) else (if bt185.2 = 2 then (some true) else (if (bt183.2 == (bt185.2 == 1)) = true then (some true) else (some false)))) else (some false))) := by
      intro x
      simp only [laws_FnSchemes.l0]
      rw [if_neg (by omega)]
    have w1 : (0 + 1 : Int) = 1 := rfl
    have w2 : (1 + 1 : Int) = 2 := rfl
    have w3 : (2 + 1 : Int) = 3 := rfl
    have w4 : (3 + 1 : Int) = 4 := rfl
    simp only [sch_round 18 a _ 0 sAllow (by simp), sch_round 16 a _ 1 sUnder (by simp), sch_round 14 a _ 2 sDots (by simp), sch_round 12 a _ 3 sValues (by simp), w1, w2, w3, w4, fin, impl_is, spec_is 6, e0, e1, e2, e3, Option.bind_some]
    by_cases h0 : a.toList = lAllow
    · rw [h0]; decide
    · by_cases h1 : a.toList = lUnder
      · rw [h1]; decide
      · by_cases h2 : a.toList = lDots
        · rw [h2]; decide
        · by_cases h3 : a.toList = lValues
          · rw [h3]; decide
          · simp only [if_neg h0, if_neg h1, if_neg h2, if_neg h3]
            decide
end Go.Proofs.Ytbcijcmmpbkkbaa.Q
