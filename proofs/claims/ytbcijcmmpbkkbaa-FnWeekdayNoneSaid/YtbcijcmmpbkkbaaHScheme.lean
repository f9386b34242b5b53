/- The escaping schemes' names: what impl.SchemeOf and impl.SchemeText return. No condition. -/
import Derived.Test.YtbcijcmmpbkkbaaHKinds
import Derived.WalkLawsBesides
namespace Go.Proofs.Ytbcijcmmpbkkbaa.Q
open Go.RowKit Go.Proofs.YtbcijcmmpbkkbaaW.PrintWords Go.Proofs.YtbcijcmmpbkkbaaW.PrintLast Go.Proofs.YtbcijcmmpbkkbaaW.PrintMore
attribute [local go_sem] max2_int min2_int max_two min_two max_three min_three max_four min_four
def sAllow : ByteArray := ⟨#[97, 108, 108, 111, 119, 45, 117, 116, 102, 45, 56]⟩
def lAllow : List UInt8 := [97, 108, 108, 111, 119, 45, 117, 116, 102, 45, 56]
def sUnder : ByteArray := ⟨#[117, 110, 100, 101, 114, 115, 99, 111, 114, 101, 115]⟩
def lUnder : List UInt8 := [117, 110, 100, 101, 114, 115, 99, 111, 114, 101, 115]
def sDots : ByteArray := ⟨#[100, 111, 116, 115]⟩
def lDots : List UInt8 := [100, 111, 116, 115]
def sValues : ByteArray := ⟨#[118, 97, 108, 117, 101, 115]⟩
def lValues : List UInt8 := [118, 97, 108, 117, 101, 115]
def schV (s : ByteArray) : Int × Bool := if s.toList.isEmpty = true then (0, false) else if (s.toList == lAllow) = true then (0, true) else if (s.toList == lUnder) = true then (1, true) else if (s.toList == lDots) = true then (2, true) else if (s.toList == lValues) = true then (3, true) else (0, false)
set_option maxHeartbeats 400000 in
theorem errNew_calls (s : ByteArray) (w : World) : Calls Try.prog 66 #[.string s] w fun e w' => ∃ g, e = .returned (.iface 114 (.pointer (some ⟨g, 0, none⟩))) ∧ Below w.heap.size w w' := by
  have hu := Try.underlying116
  go_enter Try.func66, Try.ntmps66
  go_wp2
  go_ret
  exact ⟨_, rfl, by repeat (first | exact Below.refl _ _ | apply below_alloc | apply below_drew | apply pw_below_drewN)⟩
def errIs (ok : Bool) (v : Value) : Prop := match ok with | true => v = .nilIface | false => ∃ g, v = .iface 114 (.pointer (some ⟨g, 0, none⟩))
set_option maxRecDepth 100000 in
set_option maxHeartbeats 400000 in
theorem toScheme_calls (a0 : ByteArray) (r1 : Int) (r2 : Bool) (w : World) (h2 : schV a0 = (r1, r2)) : Calls Try.prog 54 #[.string a0] w fun e w' => ∃ v, e = .returned (.tuple #[.int .i64 r1, v]) ∧ errIs r2 v ∧ Below w.heap.size w w' := by
  unfold schV at h2
  cases h0 : a0.toList.isEmpty
  case' true => rw [h0, if_pos rfl] at h2; obtain ⟨rfl, rfl⟩ := Prod.mk.inj h2
  case' false =>
    rw [h0, if_neg (by simp)] at h2
    cases h1 : (a0.toList == lAllow)
    case' true => rw [h1, if_pos rfl] at h2; obtain ⟨rfl, rfl⟩ := Prod.mk.inj h2
    case' false =>
      rw [h1, if_neg (by simp)] at h2
      cases h3 : (a0.toList == lUnder)
      case' true => rw [h3, if_pos rfl] at h2; obtain ⟨rfl, rfl⟩ := Prod.mk.inj h2
      case' false =>
        rw [h3, if_neg (by simp)] at h2
        cases h4 : (a0.toList == lDots)
        case' true => rw [h4, if_pos rfl] at h2; obtain ⟨rfl, rfl⟩ := Prod.mk.inj h2
        case' false =>
          rw [h4, if_neg (by simp)] at h2
          cases h5 : (a0.toList == lValues)
          case' true => rw [h5, if_pos rfl] at h2; obtain ⟨rfl, rfl⟩ := Prod.mk.inj h2
          case' false => rw [h5, if_neg (by simp)] at h2; obtain ⟨rfl, rfl⟩ := Prod.mk.inj h2
  all_goals
    clear h2
    try simp only [lAllow, lUnder, lDots, lValues] at *
    have HB := Aside0.mk (Below.refl w.heap.size w)
    go_enter Try.func54, Try.ntmps54
    go_wp2_with (go_at_call 66; refine (errNew_calls _ _).mono ?_; rintro e w1 ⟨g, rfl, hb⟩; have HX := Aside0.mk hb; clear HB hb; have HB := HX)
    go_ret2
    exact ⟨_, rfl, by first | rfl | exact ⟨_, rfl⟩, HB.out⟩
def impl_SchemeOf.f (a0 : ByteArray) : Option (Int × Bool) := some (schV a0)
set_option maxRecDepth 100000 in
set_option maxHeartbeats 400000 in
theorem impl_SchemeOf.calls (a0 : ByteArray) (r1 : Int) (r2 : Bool) (w : World) (h : impl_SchemeOf.f a0 = some (r1, r2)) :
    Calls Try.prog 28 #[.string a0] w fun e w' => e = .returned (.tuple #[.int .i64 r1, .bool r2]) ∧ Below w.heap.size w w' := by
  have h2 : schV a0 = (r1, r2) := Option.some.inj h
  clear h
  have H := Aside0.mk h2
  clear h2
  cases r2
  · go_enter Try.func28, Try.ntmps28
    go_wp2_with fail
    refine (toScheme_calls _ _ _ _ H.out).mono ?_
    rintro e w1 ⟨v, rfl, ⟨g, rfl⟩, hb⟩
    have HB := Aside0.mk hb
    clear hb
    go_wp2
    repeat (go_quiet (fail); try go_wp2)
    go_ret2
    exact ⟨rfl, by repeat (first | exact HB.out | apply below_drew | apply pw_below_drewN)⟩
  · go_enter Try.func28, Try.ntmps28
    go_wp2_with fail
    refine (toScheme_calls _ _ _ _ H.out).mono ?_
    rintro e w1 ⟨v, rfl, hv, hb⟩
    have hv2 : v = .nilIface := hv
    subst hv2
    have HB := Aside0.mk hb
    clear hb hv
    go_wp2
    repeat (go_quiet (fail); try go_wp2)
    go_ret2
    exact ⟨rfl, by repeat (first | exact HB.out | apply below_drew | apply pw_below_drewN)⟩
def schT (n : Int) : ByteArray := if n = 0 then sAllow else if n = 1 then sUnder else if n = 2 then sDots else sValues
def impl_SchemeText.f (a0 : Int) : Option (ByteArray) := if a0 = 0 ∨ a0 = 1 ∨ a0 = 2 ∨ a0 = 3 then some (schT a0) else none
set_option maxRecDepth 100000 in
set_option maxHeartbeats 400000 in
theorem impl_SchemeText.calls (a0 : Int) (r : ByteArray) (w : World) (h : impl_SchemeText.f a0 = some r) :
    Calls Try.prog 29 #[.int .i64 a0] w fun e w' => e = .returned (.string r) ∧ Below w.heap.size w w' := by
  unfold impl_SchemeText.f at h
  split at h
  case isFalse => cases h
  rename_i hh
  obtain rfl := Option.some.inj h
  clear h
  rcases hh with rfl | rfl | rfl | rfl
  all_goals
    go_enter Try.func29, Try.ntmps29
    go_wp2_with fail
    go_enter Try.func55, Try.ntmps55
    go_wp2
    go_ret
    exact ⟨rfl, Below.refl _ _⟩
end Go.Proofs.Ytbcijcmmpbkkbaa.Q
