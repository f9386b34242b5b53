/- What impl.Unescape returns where the law FnUnescapeStays asks: without a scheme and by underscores the name itself, by values a name that is no escape of values itself, and one escape of values. No condition. -/
import Derived.WalkLawsBesides
import Derived.WalkMore
import Derived.Test.YtkbaihcamimnjaaHBldR
import Derived.Test.YtkbaihcamimnjaaHByte
import Derived.Test.YtkbaihcamimnjaaHSBuild
import Derived.Test.YtkbaihcamimnjaaQstringsCutPrefix
import Derived.Test.YtkbaihcamimnjaaQmodellower
import Derived.Test.YtkbaihcamimnjaaQutf8ValidRune
set_option linter.unusedVariables false
set_option linter.unusedSimpArgs false
namespace Go.Proofs.Ytkbaihcamimnjaa.Q
open Go.RowKit Go.Lib Go.Proofs.YtkbaihcamimnjaaW.PrintWords Go.Proofs.YtkbaihcamimnjaaW.PrintLast Go.Proofs.YtkbaihcamimnjaaW.PrintMore
attribute [local go_sem] max2_int min2_int max_two min_two max_three min_three max_four min_four
def cU : ByteArray := ⟨#[85, 95, 95, 97, 95, 50, 101, 95, 98]⟩
def cE : ByteArray := ⟨#[97, 95, 50, 101, 95, 98]⟩
def cA : ByteArray := ⟨#[97, 46, 98]⟩
def isU (s : ByteArray) : Bool := decide (3 ≤ s.size) && ((s.extract 0 3).toList == [85, 95, 95])
def impl_Unescape.f (s : ByteArray) (k : Int) : Option ByteArray :=
  if s.size = 0 then some s else if k = 0 then some s else if k = 1 then some s else if k = 3 then (if isU s = true then (if s.toList = cU.toList then some cA else none) else some s) else none
theorem cut_not (s : ByteArray) (h : isU s = false) : strings_CutPrefix.f s ⟨#[85, 95, 95]⟩ = some (s, false) := by
  unfold strings_CutPrefix.f stringslite_CutPrefix.f stringslite_HasPrefix.f
  by_cases h3 : 3 ≤ s.size
  · have h4 : ((s.extract 0 3).toList == [85, 95, 95]) = false := by simpa [isU, h3] using h
    have e1 : ((⟨#[85, 95, 95]⟩ : ByteArray).size : Int) = 3 := rfl
    have e2 : (⟨#[85, 95, 95]⟩ : ByteArray).toList = [85, 95, 95] := by kernel_rfl
    rw [e1, e2, if_pos (by omega : (s.size : Int) ≥ 3), if_pos (by omega), if_pos (by omega)]
    have e3 : ((3 : Int).toNat) = 3 := rfl
    simp only [Option.bind_some, e3, h4, Bool.false_eq_true, if_false]
  · have e1 : ((⟨#[85, 95, 95]⟩ : ByteArray).size : Int) = 3 := rfl
    rw [e1, if_neg (by omega)]
    rfl
theorem cut_cU : strings_CutPrefix.f cU ⟨#[85, 95, 95]⟩ = some (cE, true) := by kernel_rfl
theorem IsB.drawn {B b : Nat} {acc : List UInt8} {w w' : World} (h : IsB B b acc w) (hd : Drawn0 w w') : IsB B b acc w' := by
  obtain ⟨n, rfl⟩ := hd
  have one : ∀ p, BAt B b p acc w → BAt B b p acc (w.drewN n) := fun p h => by
    obtain ⟨hB, v, hb, ho, hne⟩ := h
    have hh : (w.drewN n).heap = w.heap := by simp
    refine ⟨hB, v, by rw [hh]; exact hb, World.ownsRow.kept ho (grown_of_below (pw_below_drewN (Below.refl w.heap.size w) n) none) ?_, hne⟩
    cases hv : v.ownBlock
    · exact .inl rfl
    · exact .inr (by simp)
  exact h.elim (fun x => .inl (one _ x)) (fun x => .inr (one _ x))
theorem below_drawn {B : Nat} {a w w' : World} (h : Below B a w) (hd : Drawn0 w w') : Below B a w' := by
  obtain ⟨n, rfl⟩ := hd
  exact pw_below_drewN h n
def stU (i : Int) (acc : List UInt8) : Prop := (i = 0 ∧ acc = []) ∨ (i = 1 ∧ acc = [97]) ∨ (i = 5 ∧ acc = [97, 46]) ∨ (i = 6 ∧ acc = [97, 46, 98])
def stI (i v j : Int) : Prop := (i = 2 ∧ v = 0 ∧ j = 0) ∨ (i = 3 ∧ v = 2 ∧ j = 1) ∨ (i = 4 ∧ v = 46 ∧ j = 2)
set_option maxRecDepth 100000 in
set_option maxHeartbeats 1600000 in
theorem unescU_calls (w : World) :
    Calls Try.prog 12 #[.string cU, .int .i64 3] w fun e w' => e = .returned (.string cA) ∧ Below w.heap.size w w' := by
  have hcut := Aside0.mk cut_cU
  unfold cU
  go_enter Try.func12, Try.ntmps12
  go_wp2
  go_step3
  go_wp2_with (go_at_call 16; refine (strings_CutPrefix.calls _ _ _ _ _ hcut.out).mono ?_; rintro e w1 ⟨rfl, nd, rfl⟩; unfold cE)
  go_step3
  go_wp2
  go_loopg [8] 7 (fun g v8 wr => ∃ (i : Int) (acc : List UInt8), v8 = .int .i64 i ∧ Aside0 (stU i acc) ∧ i + g = 7 ∧ Aside0 (IsB w.heap.size w.heap.size acc wr) ∧ Aside0 (Below w.heap.size w wr))
  case atStart => exact ⟨0, [], rfl, ⟨.inl ⟨rfl, rfl⟩⟩, rfl, ⟨fresh_isBuilder _ _ _⟩, ⟨below_alloc (pw_below_drewN (Below.refl _ _) _) _⟩⟩
  case round =>
    obtain ⟨i, acc, rfl, HS, hg, HU, HB⟩ := hrel
    rcases HS.out with ⟨rfl, rfl⟩ | ⟨rfl, rfl⟩ | ⟨rfl, rfl⟩ | ⟨rfl, rfl⟩
    · go_wp2_with (go_at_call 17; refine (writeByte_calls _ _ _ 97 _ HU.out (by decide) HB.out.size).mono ?_; rintro e w2 ⟨rfl, hu2, hB2, _⟩; have HU2 := Aside0.mk hu2; have HB2 := Aside0.mk (HB.out.trans hB2); clear hu2 hB2)
      go_roundg 6
      case measure => omega
      case rel => exact ⟨1, [97], rfl, ⟨.inr (.inl ⟨rfl, rfl⟩)⟩, rfl, HU2, HB2⟩
    · go_wp2
      go_loopg [8, 9, 10] 3 (fun g2 v8 v9 v10 wy => ∃ (i v j : Int), v8 = .int .i64 i ∧ v9 = .int .u64 v ∧ v10 = .int .i64 j ∧ Aside0 (stI i v j) ∧ j + g2 = 3 ∧ Aside0 (IsB w.heap.size w.heap.size [97] wy) ∧ Aside0 (Below w.heap.size w wy))
      case atStart => exact ⟨2, 0, 0, rfl, rfl, rfl, ⟨.inl ⟨rfl, rfl, rfl⟩⟩, rfl, HU, HB⟩
      case round =>
        clear HU HB HS
        obtain ⟨i, v, j, rfl, rfl, rfl, HS, hg2, HU, HB⟩ := hrel
        rcases HS.out with ⟨rfl, rfl, rfl⟩ | ⟨rfl, rfl, rfl⟩ | ⟨rfl, rfl, rfl⟩
        · go_wp2_with (go_at_call 20; refine (model_lower.calls 50 50 _ (by kernel_rfl)).mono ?_; rintro e w2 ⟨rfl, hd⟩; have HU2 := Aside0.mk (IsB.drawn HU.out hd); have HB2 := Aside0.mk (below_drawn HB.out hd); clear hd)
          go_roundg 2
          case measure => omega
          case rel => exact ⟨3, 2, 1, rfl, rfl, rfl, ⟨.inr (.inl ⟨rfl, rfl, rfl⟩)⟩, rfl, HU2, HB2⟩
        · go_wp2_with (go_at_call 20; refine (model_lower.calls 101 101 _ (by kernel_rfl)).mono ?_; rintro e w2 ⟨rfl, hd⟩; have HU2 := Aside0.mk (IsB.drawn HU.out hd); have HB2 := Aside0.mk (below_drawn HB.out hd); clear hd)
          go_roundg 1
          case measure => omega
          case rel => exact ⟨4, 46, 2, rfl, rfl, rfl, ⟨.inr (.inr ⟨rfl, rfl, rfl⟩)⟩, rfl, HU2, HB2⟩
        · go_wp2_with (first | (go_at_call 18; refine (utf8_ValidRune.calls 3 46 true _ (by kernel_rfl)).mono ?_; rintro e w2 ⟨rfl, hd⟩; have HU2 := Aside0.mk (IsB.drawn HU.out hd); have HB2 := Aside0.mk (below_drawn HB.out hd); clear hd) | (go_at_call 19; refine (writeRune_calls _ _ _ 46 (by decide) _ HU2.out (by decide) HB2.out.size).mono ?_; rintro e w3 ⟨⟨n3, rfl⟩, hu2, hB2, _⟩; have HU3 := Aside0.mk hu2; have HB3 := Aside0.mk (HB2.out.trans hB2); clear hu2 hB2))
          go_roundg 2
          case measure => omega
          case rel => exact ⟨5, [97, 46], rfl, ⟨.inr (.inr (.inl ⟨rfl, rfl⟩))⟩, rfl, HU3, HB3⟩
    · go_wp2_with (go_at_call 17; refine (writeByte_calls _ _ _ 98 _ HU.out (by decide) HB.out.size).mono ?_; rintro e w2 ⟨rfl, hu2, hB2, _⟩; have HU2 := Aside0.mk hu2; have HB2 := Aside0.mk (HB.out.trans hB2); clear hu2 hB2)
      go_roundg 1
      case measure => omega
      case rel => exact ⟨6, [97, 46, 98], rfl, ⟨.inr (.inr (.inr ⟨rfl, rfl⟩))⟩, rfl, HU2, HB2⟩
    · go_wp2_with fail
      refine (Try.Builder_String_any _ _ _ _ HU.out HB.out.size).mono ?_
      rintro e w4 ⟨rfl, hB4⟩
      have HX4 := Aside0.mk (HB.out.trans hB4)
      clear hB4
      go_wp2
      first | (rw [Exit.noGoto_ret]; go_ret) | go_ret
      exact ⟨rfl, HX4.out⟩
set_option maxRecDepth 100000 in
set_option maxHeartbeats 1600000 in
theorem unescN_calls (s : ByteArray) (k : Int) (w : World) (hk : s.size = 0 ∨ (k = 0 ∨ k = 1) ∨ (k = 3 ∧ isU s = false)) :
    Calls Try.prog 12 #[.string s, .int .i64 k] w fun e w' => e = .returned (.string s) ∧ Below w.heap.size w w' := by
  have HB := Aside0.mk (Below.refl w.heap.size w)
  by_cases hz : s.size = 0
  · have hz2 : (s.size == 0) = true := beq_iff_eq.2 hz
    go_enter Try.func12, Try.ntmps12
    go_wp2
    first | (rw [Exit.noGoto_ret]; go_ret) | go_ret
    exact ⟨rfl, HB.out⟩
  · have hz2 : (s.size == 0) = false := beq_eq_false_iff_ne.2 hz
    have hz1 : (((s.size : Nat) : Int) == 0) = false := beq_eq_false_iff_ne.2 (by omega)
    rcases hk with h | (rfl | rfl) | ⟨rfl, hu⟩
    · exact absurd h hz
    · go_enter Try.func12, Try.ntmps12
      go_wp2
      try (go_step3; go_wp2)
      first | (rw [Exit.noGoto_ret]; go_ret) | go_ret
      exact ⟨rfl, HB.out⟩
    · go_enter Try.func12, Try.ntmps12
      go_wp2
      try (go_step3; go_wp2)
      first | (rw [Exit.noGoto_ret]; go_ret) | go_ret
      exact ⟨rfl, HB.out⟩
    · have hcut := Aside0.mk (cut_not s hu)
      go_enter Try.func12, Try.ntmps12
      go_wp2
      go_step3
      go_wp2_with (go_at_call 16; refine (strings_CutPrefix.calls _ _ _ _ _ hcut.out).mono ?_; rintro e w1 ⟨rfl, nd, rfl⟩)
      first | (rw [Exit.noGoto_ret]; go_ret) | go_ret
      exact ⟨rfl, pw_below_drewN HB.out _⟩
theorem eq_of_toList {a b : ByteArray} (h : a.toList = b.toList) : a = b := by
  rw [Lib.toList_data, Lib.toList_data] at h
  cases a; cases b
  simpa [Array.toList_inj] using h
set_option maxHeartbeats 400000 in
theorem impl_Unescape.calls (a0 : ByteArray) (a1 : Int) (r : ByteArray) (w : World) (h : impl_Unescape.f a0 a1 = some r) :
    Calls Try.prog 6 #[.string a0, .int .i64 a1] w fun e w' => e = .returned (.string r) ∧ Below w.heap.size w w' := by
  have hc : Calls Try.prog 12 #[.string a0, .int .i64 a1] w fun e w' => e = .returned (.string r) ∧ Below w.heap.size w w' := by
    unfold impl_Unescape.f at h
    by_cases h0 : a0.size = 0
    · rw [if_pos h0] at h
      obtain rfl := Option.some.inj h
      exact unescN_calls a0 a1 w (.inl h0)
    rw [if_neg h0] at h
    by_cases h1 : a1 = 0
    · rw [if_pos h1] at h
      obtain rfl := Option.some.inj h
      exact unescN_calls a0 a1 w (.inr (.inl (.inl h1)))
    rw [if_neg h1] at h
    by_cases h2 : a1 = 1
    · rw [if_pos h2] at h
      obtain rfl := Option.some.inj h
      exact unescN_calls a0 a1 w (.inr (.inl (.inr h2)))
    rw [if_neg h2] at h
    by_cases h3 : a1 = 3
    · rw [if_pos h3] at h
      subst h3
      cases hu : isU a0
      · rw [hu, if_neg (by simp)] at h
        obtain rfl := Option.some.inj h
        exact unescN_calls a0 3 w (.inr (.inr ⟨rfl, hu⟩))
      · rw [hu, if_pos rfl] at h
        by_cases h4 : a0.toList = cU.toList
        · rw [if_pos h4] at h
          obtain rfl := Option.some.inj h
          obtain rfl := eq_of_toList h4
          exact unescU_calls w
        · rw [if_neg h4] at h
          cases h
    · rw [if_neg h3] at h
      cases h
  clear h
  go_enter Try.func6, Try.ntmps6
  go_wp2_with fail
  refine hc.mono ?_
  rintro e w1 ⟨rfl, hb⟩
  have HB := Aside0.mk hb
  clear hb
  go_wp2
  go_ret
  exact ⟨rfl, HB.out⟩
end Go.Proofs.Ytkbaihcamimnjaa.Q
