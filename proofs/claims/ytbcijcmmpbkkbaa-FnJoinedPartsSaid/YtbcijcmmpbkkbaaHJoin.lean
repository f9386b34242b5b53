/- Strings joined: what impl.Joined returns. No condition beyond the lengths named. -/
import Derived.Test.YtbcijcmmpbkkbaaHKinds
import Derived.Test.YtbcijcmmpbkkbaaHSJoin
namespace Go.Proofs.Ytbcijcmmpbkkbaa.Q
open Go.RowKit Go.Proofs.YtbcijcmmpbkkbaaW.PrintWords Go.Proofs.YtbcijcmmpbkkbaaW.PrintLast Go.Proofs.YtbcijcmmpbkkbaaW.PrintMore
attribute [local go_sem] max2_int min2_int max_two min_two max_three min_three max_four min_four
theorem str_cells {w : World} {A : Option Addr} {n : Nat} {xs : List ByteArray} (h : Kd.C Kd.string w A n xs) (hn : 0 < n) : ∃ bk o, A = some ⟨bk, o, none⟩ ∧ bk < w.heap.size ∧ ∀ (j : Nat) x, xs[j]? = some x → w.cell? ⟨bk, o + j, none⟩ = some (.string x) := by
  obtain ⟨ad, rfl, hc⟩ := h.2.2 hn
  have hl : 0 < xs.length := by have := h.1; omega
  have at0 : ∀ (j : Nat) x, xs[j]? = some x → w.cell? (ad.add j) = some (.string x) := by
    intro j x hj
    obtain ⟨c, _, hK, hu⟩ := hc j x hj
    have hK' : c = [.string x] := hK
    subst hK'
    have := hu 0 _ rfl
    have e : j * Kd.string.sz + 0 = j := by show j * 1 + 0 = j; omega
    rwa [e] at this
  have h0 := at0 0 xs[0] (List.getElem?_eq_getElem hl)
  have hs := World.cell?_spot h0
  have ha : ad.add 0 = ad := by simp [Addr.add]
  rw [ha] at hs h0
  obtain ⟨bk, o, sp⟩ := ad
  simp only at hs
  subst hs
  refine ⟨bk, o, rfl, World.block_lt_of_cell? w _ h0, fun j x hj => ?_⟩
  have := at0 j x hj
  have e : (⟨bk, o, none⟩ : Addr).add j = ⟨bk, o + j, none⟩ := by unfold Addr.add; split <;> simp_all
  rwa [e] at this
def joinL (l : List ByteArray) (s : ByteArray) : List UInt8 := Lib.join (l.map (·.data.toList)) s.data.toList
def impl_Joined.f (l0 : List ByteArray) (a1 : ByteArray) : Option (ByteArray) := if l0.length ≤ 140737488355328 ∧ (joinL l0 a1).length ≤ 140737488355328 then some ⟨(joinL l0 a1).toArray⟩ else none
theorem join_calls (A0 : Option Addr) (c0 : Nat) (l0 : List ByteArray) (a1 : ByteArray) (w : World) (hr0 : Kd.C Kd.string w A0 l0.length l0) (hc0 : l0.length ≤ c0) (h1 : l0.length ≤ 140737488355328) (h2 : (joinL l0 a1).length ≤ 140737488355328) :
    Calls Try.prog 68 #[.slice A0 l0.length c0, .string a1] w fun e w' => e = .returned (.string ⟨(joinL l0 a1).toArray⟩) ∧ Below w.heap.size w w' := by
  rcases Nat.eq_zero_or_pos l0.length with h | h
  · obtain rfl : l0 = [] := List.eq_nil_of_length_eq_zero h
    refine (Try.strings_Join_none A0 c0 a1 w).mono ?_
    rintro e w' ⟨rfl, rfl⟩
    exact ⟨rfl, Below.refl _ _⟩
  · obtain ⟨bk, o, rfl, hb, hc⟩ := str_cells hr0 h
    exact Try.strings_Join bk o c0 l0 a1 w hc hb h1 hc0 h2
set_option maxRecDepth 100000 in
set_option maxHeartbeats 400000 in
theorem impl_Joined.calls (A0 : Option Addr) (c0 : Nat) (l0 : List ByteArray) (a1 : ByteArray) (r : ByteArray) (w : World) (hr0 : Kd.C Kd.string w A0 l0.length l0) (hc0 : l0.length ≤ c0) (h : impl_Joined.f l0 a1 = some r) :
    Calls Try.prog 41 #[.slice A0 l0.length c0, .string a1] w fun e w' => e = .returned (.string r) ∧ Below w.heap.size w w' := by
  unfold impl_Joined.f at h
  split at h
  case isFalse => cases h
  rename_i hh
  obtain rfl := Option.some.inj h
  clear h
  have HR := Aside0.mk hr0
  have HH := Aside0.mk hh
  clear hr0 hh
  go_enter Try.func41, Try.ntmps41
  go_wp2_with fail
  go_enter Try.func62, Try.ntmps62
  go_wp2_with fail
  refine (join_calls _ _ _ _ _ HR.out hc0 HH.out.1 HH.out.2).mono ?_
  rintro e w1 ⟨rfl, hb⟩
  have HB := Aside0.mk hb
  clear hb
  go_wp2
  go_ret
  exact ⟨rfl, HB.out⟩
end Go.Proofs.Ytbcijcmmpbkkbaa.Q
