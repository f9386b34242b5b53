/- What parse.isReserved returns. Condition: the table of white space as the library lays it. -/
import Derived.Test.YtlpcbmgleecafaaDoorHLexB
import Derived.Test.YtlpcbmgleecafaaDoorHRuneIn
set_option linter.unusedVariables false
set_option linter.unusedSimpArgs false
namespace Go.Proofs.YtlpcbmgleecafaaDoor.Q
open Go.RowKit Go.Lib Go.Proofs.YtlpcbmgleecafaaDoorW.PrintWords Go.Proofs.YtlpcbmgleecafaaDoorW.PrintLast Go.Proofs.YtlpcbmgleecafaaDoorW.PrintMore
attribute [local go_sem] max2_int min2_int max_two min_two max_three min_three max_four min_four
theorem contains_calls (s : ByteArray) (r : Int) (w : World) : Calls Tryd.prog 40 #[.string s, .int .i32 r] w fun e w' => e = .returned (.bool (hasR s r)) ∧ Below w.heap.size w w' := by
  go_enter Tryd.func40, Tryd.ntmps40
  go_wp2_with fail
  refine (idx_calls s r _).mono ?_
  rintro e w' ⟨n, rfl, hn, hb⟩
  have HN := Aside0.mk hn
  have HB := Aside0.mk hb
  clear hb hn
  go_wp2
  go_ret
  exact ⟨by rw [← HN.out]; rfl, HB.out⟩
def resC : ByteArray := ⟨#[123, 125, 33, 61, 126, 44, 92, 34, 39, 96]⟩
/-- May a character not stand in a word without quotes. -/
def resR (r : Int) : Bool := Lib.isSpaceZ r || hasR resC r
theorem isReserved_calls (r : Int) (w : World) (h0 : -2147483648 ≤ r) (h1 : r ≤ 2147483647) (tb : TBl w) :
    Calls Tryd.prog 30 #[.int .i32 r] w fun e w' => e = .returned (.bool (resR r)) ∧ Below w.heap.size w w' := by
  have HT := Aside0.mk tb
  clear tb
  unfold resR
  cases hs : Lib.isSpaceZ r
  · have HS := Aside0.mk hs
    clear hs
    go_enter Tryd.func30, Tryd.ntmps30
    go_wp2_with (first | (go_at_call 32; refine (Tryd.unicode_IsSpace_any r _ h0 h1 HT.out.2).mono ?_; rintro e w1 ⟨rfl, hb⟩; rw [HS.out]; have HB := Aside0.mk hb; clear hb) | (go_at_call 40; refine (contains_calls resC r _).mono ?_; rintro e w2 ⟨rfl, hb⟩; have HB2 := Aside0.mk (HB.out.trans (hb.mono HB.out.size)); clear hb))
    go_ret
    exact ⟨by simp, HB2.out⟩
  · have HS := Aside0.mk hs
    clear hs
    go_enter Tryd.func30, Tryd.ntmps30
    go_wp2_with (go_at_call 32; refine (Tryd.unicode_IsSpace_any r _ h0 h1 HT.out.2).mono ?_; rintro e w1 ⟨rfl, hb⟩; rw [HS.out]; have HB := Aside0.mk hb; clear hb)
    go_ret
    exact ⟨by simp, HB.out⟩
theorem TBw.below {w w' : World} (h : TBw w) (hb : Below w.heap.size w w') : TBw w' := by
  have k : ∀ a v, w.cell? a = some v → w'.cell? a = some v := fun a v h => (hb.cell (World.block_lt_of_cell? _ _ h)).trans h
  obtain ⟨T, oT, R, oR, h1, h2, h3, h4, h5⟩ := h
  exact ⟨T, oT, R, oR, k _ _ h1, k _ _ h2, k _ _ h3, k _ _ h4, fun i hi => k _ _ (h5 i hi)⟩
theorem TBl.below {w w' : World} (h : TBl w) (hb : Below w.heap.size w w') : TBl w' := ⟨TBu.below h.1 hb, TBw.below h.2 hb⟩
end Go.Proofs.YtlpcbmgleecafaaDoor.Q
