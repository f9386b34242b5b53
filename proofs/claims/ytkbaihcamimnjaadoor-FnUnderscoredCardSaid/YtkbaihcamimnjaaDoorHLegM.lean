/- Which names were valid ahead of UTF-8, as the library tells it: what impl.LegacyMetric and impl.LegacyLabel return, for every text. -/
import Derived.Test.YtkbaihcamimnjaaDoorHKinds
import Derived.Test.YtkbaihcamimnjaaDoorQmodelisValidLegacyRune
import Derived.Lib.OthersKept
import Derived.WalkLawsBesides
set_option linter.unusedVariables false
set_option linter.unusedSimpArgs false
namespace Go.Proofs.YtkbaihcamimnjaaDoor.Q
open Go.RowKit Go.Proofs.YtkbaihcamimnjaaDoorW.PrintWords Go.Proofs.YtkbaihcamimnjaaDoorW.PrintLast Go.Proofs.YtkbaihcamimnjaaDoorW.PrintMore
attribute [local go_sem] max2_int min2_int max_two min_two max_three min_three max_four min_four

theorem upto_succ {p : Nat → Prop} {n : Nat} (h : ∀ i, i < n → p i) (hn : p n) : ∀ i, i < n + 1 → p i := fun i hi => by
  rcases Nat.lt_succ_iff_lt_or_eq.1 hi with h1 | h1
  · exact h i h1
  · subst h1; exact hn
/-- May the character stand at a place of a legacy name; with colons where they may be. -/
def legC (colon : Bool) (c i : Int) : Bool := decide (97 ≤ c ∧ c ≤ 122 ∨ 65 ≤ c ∧ c ≤ 90 ∨ c = 95 ∨ (colon = true ∧ c = 58) ∨ (48 ≤ c ∧ c ≤ 57 ∧ 0 < i))
theorem legRune (c i : Int) : model_isValidLegacyRune.f c i = some (legC true c i) := by
  unfold model_isValidLegacyRune.f legC
  repeat' split
  all_goals first | (simp; omega) | (congr 1; exact Bool.eq_iff_iff.2 (by simp; omega))
/-- All characters of a text from a place on may stand there. -/
def legFrom (colon : Bool) (s : ByteArray) (pos : Nat) : Prop := ∀ i, pos ≤ i → i < s.size → legC colon (bt s i) i = true
def legB (colon : Bool) (s : ByteArray) : Bool := decide (0 < s.size) && (List.range s.size).all fun i => legC colon (bt s i) i
theorem legB_of {colon : Bool} {s : ByteArray} (h0 : 0 < s.size) (h : ∀ i, i < s.size → legC colon (bt s i) i = true) : legB colon s = true := by
  simp [legB, h0]
  exact fun i hi => h i hi
theorem legB_not {colon : Bool} {s : ByteArray} {i : Nat} (hi : i < s.size) (h : legC colon (bt s i) i = false) : legB colon s = false := by
  cases hb : legB colon s
  · rfl
  · simp [legB] at hb
    rw [hb.2 i hi] at h
    cases h
theorem legC_high (colon : Bool) (c i : Int) (h : 128 ≤ c) : legC colon c i = false := by
  simp [legC]; omega
theorem bt_nat (s : ByteArray) (n : Nat) (h : n < s.size) : bt s (n : Int) = ((s[n]'h).toNat : Int) := by
  have := (bt_at s (n : Int)) (by simpa using h)
  rw [← this]; simp
/-- The character at a place, as far as legacy names go. -/
theorem legC_decode (colon : Bool) (s : ByteArray) (pos : Nat) (h : pos < s.size) : legC colon ((Utf8.decode s pos).1 : Int) pos = legC colon (bt s pos) pos ∧ (legC colon (bt s pos) pos = true → (Utf8.decode s pos).2 = 1) := by
  by_cases ha : (s[pos]'h).toNat < 128
  · rw [decode_ascii s pos h ha, bt_nat s pos h]
    exact ⟨rfl, fun _ => rfl⟩
  · have hd := (decode_high s pos h (by omega)).1
    rw [legC_high colon _ _ (by omega), bt_nat s pos h, legC_high colon _ _ (by omega)]
    exact ⟨rfl, fun h => by cases h⟩

def impl_LegacyMetric.f (a0 : ByteArray) : Option (Bool) := some (legB true a0)
set_option maxRecDepth 100000 in
set_option maxHeartbeats 400000 in
theorem IsValidLegacyMetricName_calls (s : ByteArray) (w : World) :
    Calls Tryd.prog 30 #[.string s] w fun e w' => e = .returned (.bool (legB true s)) ∧ Below w.heap.size w w' := by
  by_cases hz : s.size = 0
  · have e0 : s = ⟨#[]⟩ := by
      obtain ⟨⟨l⟩⟩ := s
      cases l with
      | nil => rfl
      | cons a l => simp [ByteArray.size] at hz
    subst e0
    go_enter Tryd.func30, Tryd.ntmps30
    go_wp2
    go_ret
    exact ⟨rfl, Below.refl _ _⟩
  · have hz1 : (((s.size : Nat) : Int) == 0) = false := beq_eq_false_iff_ne.2 (by omega)
    have hz2 : (s.size == 0) = false := beq_eq_false_iff_ne.2 hz
    have HB := Aside0.mk (Below.refl w.heap.size w)
    go_enter Tryd.func30, Tryd.ntmps30
    go_wp2
    go_loopw [] (fun w' => ∃ pos : Nat, pos ≤ s.size ∧ Aside0 (∀ i, i < pos → legC true (bt s i) i = true) ∧ Aside0 (w'.heap[w.heap.size]? = some (.stringIter s pos)) ∧ Aside0 (Below w.heap.size w w')) (fun w' => s.size - w'.iterPos w.heap.size)
    case atStart => exact ⟨0, Nat.zero_le _, ⟨fun i hi => by omega⟩, ⟨World.iter_heap w s 0⟩, ⟨below_alloc HB.out _⟩⟩
    case round =>
      obtain ⟨pos, hpos, HL, HI, HB⟩ := hrel
      have hm : wr.iterPos w.heap.size = pos := by simp [World.iterPos, HI.out]
      by_cases hp : pos < s.size
      · have hnx : ∀ ty, (Instr.next (.pointer (some ⟨w.heap.size, 0, none⟩)) true ty).run Tryd.prog wr = _ := fun ty => Lib.run_next_any_at wr w.heap.size s pos ty HI.out hp
        have hI2 := Aside0.mk (Lib.iterAt_heap wr w.heap.size s pos (pos + (Utf8.decode s pos).2) HI.out)
        have hB2 := Aside0.mk (Lib.below_iterAt HB.out (Nat.le_refl _) s (pos + (Utf8.decode s pos).2))
        have hd := legC_decode true s pos hp
        cases hc : legC true (bt s pos) pos
        · have hf := Aside0.mk (legB_not hp hc)
          have hr : model_isValidLegacyRune.f ((Utf8.decode s pos).1 : Int) (pos : Int) = some false := by rw [legRune, hd.1, hc]
          have HR := Aside0.mk hr
          clear hr hd hc HL
          go_wp2_with (go_at_call 44; refine (model_isValidLegacyRune.calls _ _ _ _ HR.out).mono ?_; rintro e w2 ⟨rfl, hdr⟩; have HB3 := Aside0.mk (hB2.out.trans (hdr.below.mono hB2.out.size)); clear hdr)
          go_ret
          exact ⟨by rw [hf.out]; rfl, HB3.out⟩
        · have hw1 : (Utf8.decode s pos).2 = 1 := hd.2 hc
          have hr : model_isValidLegacyRune.f ((Utf8.decode s pos).1 : Int) (pos : Int) = some true := by rw [legRune, hd.1, hc]
          have HR := Aside0.mk hr
          have HC := Aside0.mk hc
          have HW := Aside0.mk hw1
          clear hr hd hc hw1
          go_wp2_with (go_at_call 44; refine (model_isValidLegacyRune.calls _ _ _ _ HR.out).mono ?_; rintro e w2 ⟨rfl, hdr⟩; have HI3 := Aside0.mk (blk_below hI2.out hdr.below); have HB3 := Aside0.mk (hB2.out.trans (hdr.below.mono hB2.out.size)); clear hdr)
          go_roundw
          case rel => exact ⟨pos + 1, by omega, ⟨upto_succ HL.out HC.out⟩, ⟨by rw [HI3.out, HW.out]⟩, HB3⟩
          case measure =>
            have h3 : w2.iterPos w.heap.size = pos + 1 := by simp [World.iterPos, HI3.out, HW.out]
            rw [h3, hm]
            omega
      · have hnx : ∀ ty, (Instr.next (.pointer (some ⟨w.heap.size, 0, none⟩)) true ty).run Tryd.prog wr = _ := fun ty => Lib.run_next_end_at wr w.heap.size s pos ty HI.out hp
        have he : pos = s.size := by omega
        subst he
        go_wp2
        go_ret
        exact ⟨by rw [legB_of (by omega) HL.out]; rfl, HB.out⟩
set_option maxHeartbeats 400000 in
theorem impl_LegacyMetric.calls (a0 : ByteArray) (r : Bool) (w : World) (h : impl_LegacyMetric.f a0 = some r) :
    Calls Tryd.prog 17 #[.string a0] w fun e w' => e = .returned (.bool r) ∧ Below w.heap.size w w' := by
  obtain rfl := Option.some.inj h
  clear h
  go_enter Tryd.func17, Tryd.ntmps17
  go_wp2_with fail
  refine (IsValidLegacyMetricName_calls _ _).mono ?_
  rintro e w1 ⟨rfl, hb⟩
  have HB := Aside0.mk hb
  clear hb
  go_wp2
  go_ret
  exact ⟨rfl, HB.out⟩

end Go.Proofs.YtkbaihcamimnjaaDoor.Q
