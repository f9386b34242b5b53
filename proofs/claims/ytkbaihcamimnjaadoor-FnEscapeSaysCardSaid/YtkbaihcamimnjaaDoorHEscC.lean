/- What impl.Escape returns, at every text of at most 1000000 bytes. Condition: one cell of the table that math/bits.TrailingZeros64 reads. -/
import Derived.Test.YtkbaihcamimnjaaDoorHEscB
set_option linter.unusedVariables false
set_option linter.unusedSimpArgs false
namespace Go.Proofs.YtkbaihcamimnjaaDoor.Q
open Go.RowKit Go.Lib Go.Proofs.YtkbaihcamimnjaaDoorW.PrintWords Go.Proofs.YtkbaihcamimnjaaDoorW.PrintLast Go.Proofs.YtkbaihcamimnjaaDoorW.PrintMore
attribute [local go_sem] max2_int min2_int max_two min_two max_three min_three max_four min_four
def escF (s : ByteArray) (k : Int) : ByteArray :=
  if s.size = 0 then s else if k = 0 then s
  else if k = 1 then (if legB true s = true then s else ⟨(escFrom 1 s 0).toArray⟩)
  else if k = 2 then ⟨(escFrom 2 s 0).toArray⟩
  else (if legB true s = true then s else ⟨([85, 95, 95] ++ escFrom 3 s 0).toArray⟩)
def impl_Escape.f (s : ByteArray) (k : Int) : Option ByteArray := if s.size ≤ 1000000 ∧ (k = 0 ∨ k = 1 ∨ k = 2 ∨ k = 3) then some (escF s k) else none
set_option maxRecDepth 100000 in
set_option maxHeartbeats 1600000 in
theorem escN_calls (s : ByteArray) (k : Int) (w : World) (h : s.size = 0 ∨ k = 0 ∨ ((k = 1 ∨ k = 3) ∧ legB true s = true)) :
    Calls Tryd.prog 28 #[.string s, .int .i64 k] w fun e w' => e = .returned (.string s) ∧ Below w.heap.size w w' := by
  by_cases h0 : s.size = 0
  · have h1 : (((s.size : Nat) : Int) == 0) = true := beq_iff_eq.2 (by omega)
    go_enter Tryd.func28, Tryd.ntmps28
    go_wp2
    go_ret
    exact ⟨rfl, Below.refl _ _⟩
  have h1 : (((s.size : Nat) : Int) == 0) = false := beq_eq_false_iff_ne.2 (by omega)
  have HB := Aside0.mk (below_alloc (Below.refl w.heap.size w) (.cells #[.pointer none, .slice none 0 0] 73))
  rcases h with h | rfl | ⟨rfl | rfl, hl⟩
  · exact absurd h h0
  · clear h0
    go_enter Tryd.func28, Tryd.ntmps28
    go_wp2
    first | (rw [Exit.noGoto_ret]; go_ret) | go_ret
    exact ⟨rfl, HB.out⟩
  all_goals
    have HL := Aside0.mk hl
    clear h0 hl
    go_enter Tryd.func28, Tryd.ntmps28
    go_wp2_with (go_at_call 30; refine (IsValidLegacyMetricName_calls s _).mono ?_; rintro e w1 ⟨rfl, hB1⟩; rw [HL.out]; have HB1 := Aside0.mk (HB.out.trans (hB1.mono HB.out.size)); clear hB1)
    first | (rw [Exit.noGoto_ret]; go_ret) | go_ret
    exact ⟨rfl, HB1.out⟩
theorem escape_calls (s : ByteArray) (k : Int) (w : World) (tb : TBz w) (hs : s.size ≤ 1000000) (hk : k = 0 ∨ k = 1 ∨ k = 2 ∨ k = 3) :
    Calls Tryd.prog 28 #[.string s, .int .i64 k] w fun e w' => e = .returned (.string (escF s k)) ∧ Below w.heap.size w w' := by
  unfold escF
  by_cases h0 : s.size = 0
  · rw [if_pos h0]; exact escN_calls s k w (.inl h0)
  rw [if_neg h0]
  rcases hk with rfl | rfl | rfl | rfl
  · rw [if_pos rfl]; exact escN_calls s 0 w (.inr (.inl rfl))
  · rw [if_neg (by decide), if_pos rfl]
    cases hl : legB true s
    · rw [if_neg (by simp)]; exact esc1_calls s (by omega) hs hl w
    · rw [if_pos rfl]; exact escN_calls s 1 w (.inr (.inr ⟨.inl rfl, hl⟩))
  · rw [if_neg (by decide), if_neg (by decide), if_pos rfl]; exact esc2_calls s (by omega) hs w
  · rw [if_neg (by decide), if_neg (by decide), if_neg (by decide)]
    cases hl : legB true s
    · rw [if_neg (by simp)]; exact esc3_calls s (by omega) hs hl w tb
    · rw [if_pos rfl]; exact escN_calls s 3 w (.inr (.inr ⟨.inr rfl, hl⟩))
set_option maxHeartbeats 800000 in
theorem impl_Escape.calls (a0 : ByteArray) (a1 : Int) (r : ByteArray) (w : World) (tb : TBz w) (h : impl_Escape.f a0 a1 = some r) :
    Calls Tryd.prog 14 #[.string a0, .int .i64 a1] w fun e w' => e = .returned (.string r) ∧ Below w.heap.size w w' := by
  unfold impl_Escape.f at h
  split at h
  case isFalse => cases h
  case isTrue hi =>
  obtain rfl := Option.some.inj h
  have HI := Aside0.mk hi
  have HT := Aside0.mk tb
  clear hi h tb
  go_enter Tryd.func14, Tryd.ntmps14
  go_wp2_with fail
  refine (escape_calls a0 a1 _ HT.out HI.out.1 HI.out.2).mono ?_
  rintro e w1 ⟨rfl, hb⟩
  have HB := Aside0.mk hb
  clear hb
  go_wp2
  go_ret
  exact ⟨rfl, HB.out⟩
end Go.Proofs.YtkbaihcamimnjaaDoor.Q
