/- What a row's listed variables say of strconv's two errors: they hold some error. No condition. -/
import Derived.Test.YtmmcibeeojfplaaDoorHKinds
import Derived.Lib.LaidU8
import Derived.LaidLaws
import Derived.MakeChecks
set_option linter.unusedVariables false
set_option linter.unusedSimpArgs false
namespace Go.Proofs.YtmmcibeeojfplaaDoor.Q
open Go.RowKit Go.Lib
def ErrAt (w : World) (n : String) : Prop := ∃ tp p, w.var? Tryd.prog n = some #[.iface tp p]
/-- The two errors of package strconv: each variable holds an error. -/
def TBe (w : World) : Prop := ErrAt w "strconv.ErrRange" ∧ ErrAt w "strconv.ErrSyntax"
theorem ErrAt.below {w w' : World} {n : String} (h : ErrAt w n) (hb : Below w.heap.size w w') : ErrAt w' n := by
  obtain ⟨tp, p, h⟩ := h
  refine ⟨tp, p, ?_⟩
  unfold World.var? at *
  cases hg : Tryd.prog.globalNamed n with
  | none => simp [hg] at h
  | some g =>
    simp only [hg, Option.bind_some] at h ⊢
    have hlt : g < w.heap.size := by
      rcases Nat.lt_or_ge g w.heap.size with h' | h'
      · exact h'
      · rw [Array.getElem?_eq_none h'] at h; simp at h
    rw [hb.block g hlt]
    exact h
theorem TBe.below {w w' : World} (h : TBe w) (hb : Below w.heap.size w w') : TBe w' := ⟨h.1.below hb, h.2.below hb⟩
theorem ErrAt.of_reads {w : World} {n name : String} {d : DataW Unit} {t0 : Nat} (ht0 : (Tryd.prog.globalNamed n).bind (fun g => (Tryd.prog.globals[g]?).map (·.type)) = some t0) {ms : Array (String × TypeId)} (hu : Tryd.prog.underlying t0 = some (.interface ms)) (h : VarReads Tryd.prog w n (.iface name d)) : ErrAt w n := by
  obtain ⟨g, t, cs, fuel, p, hg, hty, hvar, hd⟩ := h
  rw [hg] at ht0
  obtain rfl : t = t0 := Option.some.inj (hty.symm.trans ht0)
  obtain ⟨_, u, v, hc, _, _⟩ := iface_of_trod hu hd
  refine ⟨u, v, ?_⟩
  rw [hvar, ← Array.toArray_toList (xs := cs), hc]
def rangeD : DataW Unit := .iface "*errors.errorString" (.ptr (.agg [.lit (.string [118, 97, 108, 117, 101, 32, 111, 117, 116, 32, 111, 102, 32, 114, 97, 110, 103, 101])]))
def syntaxD : DataW Unit := .iface "*errors.errorString" (.ptr (.agg [.lit (.string [105, 110, 118, 97, 108, 105, 100, 32, 115, 121, 110, 116, 97, 120])]))
theorem TBe.of_laid {l : List (String × DataW Unit)} {w : World} (h : laidMetH Tryd.prog l w) (hp : (l.all fun x => x.2.handleName?.isNone) = true) (i j : Nat) (hm : l[i]? = some ("strconv.ErrRange", rangeD)) (hn : l[j]? = some ("strconv.ErrSyntax", syntaxD)) : TBe w := by
  rw [MakeChecks.laidMetH_plain _ _ _ hp] at h
  exact ⟨ErrAt.of_reads (t0 := 63) (by kernel_rfl) Tryd.underlying63 (Go.Lib.laidMet.reads h (List.mem_of_getElem? hm)), ErrAt.of_reads (t0 := 63) (by kernel_rfl) Tryd.underlying63 (Go.Lib.laidMet.reads h (List.mem_of_getElem? hn))⟩
end Go.Proofs.YtmmcibeeojfplaaDoor.Q
