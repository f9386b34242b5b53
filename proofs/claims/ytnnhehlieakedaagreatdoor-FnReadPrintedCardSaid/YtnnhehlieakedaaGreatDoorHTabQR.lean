/- What a row's listed variables say of the tables and errors that the reader reads. No condition. What a row's listed variables say of the tables that reading and printing read. No condition. -/
import Derived.Test.YtnnhehlieakedaaGreatDoorHTabM
import Derived.Test.YtnnhehlieakedaaGreatDoorHParseM
import Derived.LaidLaws
import Derived.Stop.LaidTwo
import Derived.Stop.ErrReads
import Derived.Test.YtnnhehlieakedaaGreatDoorHPrM
import Derived.Lib.LaidPrint
namespace Go.Proofs.YtnnhehlieakedaaGreatDoor.Q
open Go.RowKit Go.Lib Go.Shelf
theorem TBq.tl {w : World} (h : TBq w) : TBl w := h.1
theorem laidMet_drop {P : Program} {w : World} : ∀ (i : Nat) {l : List (String × DataW Unit)}, laidMet P l w → laidMet P (l.drop i) w
  | 0, _, h => h
  | i + 1, [], h => h
  | i + 1, _ :: l, h => laidMet_drop i h.tail
theorem drop_of_getQ {α : Type} : ∀ {l : List α} {i : Nat} {x : α}, l[i]? = some x → ∃ r, l.drop i = x :: r
  | [], i, _, h => by simp at h
  | a :: l, 0, _, h => by simp at h; exact ⟨l, by simp [h]⟩
  | a :: l, i + 1, _, h => by
    obtain ⟨r, hr⟩ := drop_of_getQ (l := l) (i := i) (by simpa using h)
    exact ⟨r, by simpa using hr⟩
theorem starQ : "*" ++ "errors.errorString" = "*errors.errorString" := by decide
theorem rowErr (u : TypeId) (h : Tryz.prog.typeName? 3 u = some "*errors.errorString") : u = 116 :=
  typeName_ptr_named (nm := "errors.errorString") (by rw [starQ]; kernel_rfl) (by kernel_rfl) (by decide) u (by rw [starQ]; exact h)
theorem IsE.of_reads {w : World} {n name : String} {d : DataW Unit} {g0 t0 : Nat} (hg0 : Tryz.prog.globalNamed n = some g0) (ht0 : (Tryz.prog.globals[g0]?).map (·.type) = some t0) {ms : Array (String × TypeId)} (hu : Tryz.prog.underlying t0 = some (.interface ms)) (h : VarReads Tryz.prog w n (.iface name d)) : IsE w g0 := by
  obtain ⟨g, t, cs, fuel, p, hg, hty, hvar, hd⟩ := h
  obtain rfl : g = g0 := Option.some.inj (hg.symm.trans hg0)
  obtain rfl : t = t0 := Option.some.inj (hty.symm.trans ht0)
  obtain ⟨_, u, v, hc, _, _⟩ := iface_of_trod hu hd
  have hv : w.var? Tryz.prog n = some #[.iface u v] := by rw [hvar, ← Array.toArray_toList (xs := cs), hc]
  exact ⟨u, v, by simpa using World.var?_cell hg hv 0⟩
def eq0D : DataW Unit := .iface "*errors.errorString" (.ptr (.agg [.lit (.string [101, 110, 100, 32, 111, 102, 32, 105, 110, 112, 117, 116])]))
def eq1D : DataW Unit := .iface "*errors.errorString" (.ptr (.agg [.lit (.string [101, 120, 112, 101, 99, 116, 101, 100, 32, 101, 110, 100, 32, 111, 102, 32, 105, 110, 112, 117, 116])]))
def eq2D : DataW Unit := .iface "*errors.errorString" (.ptr (.agg [.lit (.string [101, 120, 112, 101, 99, 116, 101, 100, 32, 111, 112, 101, 110, 105, 110, 103, 32, 98, 114, 97, 99, 101])]))
def eq3D : DataW Unit := .iface "*errors.errorString" (.ptr (.agg [.lit (.string [101, 120, 112, 101, 99, 116, 101, 100, 32, 99, 108, 111, 115, 101, 32, 98, 114, 97, 99, 101])]))
def eq4D : DataW Unit := .iface "*errors.errorString" (.ptr (.agg [.lit (.string [101, 120, 112, 101, 99, 116, 101, 100, 32, 108, 97, 98, 101, 108, 32, 110, 97, 109, 101])]))
def eq5D : DataW Unit := .iface "*errors.errorString" (.ptr (.agg [.lit (.string [101, 120, 112, 101, 99, 116, 101, 100, 32, 108, 97, 98, 101, 108, 32, 118, 97, 108, 117, 101])]))
def eq6D : DataW Unit := .iface "*errors.errorString" (.ptr (.agg [.lit (.string [101, 120, 112, 101, 99, 116, 101, 100, 32, 97, 110, 32, 111, 112, 101, 114, 97, 116, 111, 114, 32, 115, 117, 99, 104, 32, 97, 115, 32, 39, 61, 39, 44, 32, 39, 33, 61, 39, 44, 32, 39, 61, 126, 39, 32, 111, 114, 32, 39, 33, 126, 39])]))
def eq7D : DataW Unit := .iface "*errors.errorString" (.ptr (.agg [.lit (.string [101, 120, 112, 101, 99, 116, 101, 100, 32, 97, 32, 99, 111, 109, 109, 97])]))
def eq8D : DataW Unit := .iface "*errors.errorString" (.ptr (.agg [.lit (.string [101, 120, 112, 101, 99, 116, 101, 100, 32, 97, 32, 99, 111, 109, 109, 97, 32, 111, 114, 32, 99, 108, 111, 115, 101, 32, 98, 114, 97, 99, 101])]))
def eq9D : DataW Unit := .iface "*errors.errorString" (.ptr (.agg [.lit (.string [101, 120, 112, 101, 99, 116, 101, 100, 32, 97, 32, 109, 97, 116, 99, 104, 101, 114, 32, 111, 114, 32, 99, 108, 111, 115, 101, 32, 98, 114, 97, 99, 101, 32, 97, 102, 116, 101, 114, 32, 99, 111, 109, 109, 97])]))
def eq10D : DataW Unit := .iface "*errors.errorString" (.ptr (.agg [.lit (.string [105, 110, 118, 97, 108, 105, 100, 32, 115, 121, 110, 116, 97, 120])]))
set_option maxRecDepth 100000 in
theorem eof_of_laid {l : List (String × DataW Unit)} {w : World} (h : laidMet Tryz.prog l w) (i : Nat) (hm : l[i]? = some ("pub-clamour/pub/alertmanager/matcher/parse.errEOF", eq0D)) : ∃ a, w.cell? ⟨0, 0, none⟩ = some (.iface 116 (.pointer (some a))) ∧ ∃ c t, w.heap[a.block]? = some (.cells c t (0, 0)) := by
  obtain ⟨r, hr⟩ := drop_of_getQ hm
  have h2 := laidMet_drop i h
  rw [hr] at h2
  clear h hr hm
  unfold eq0D at h2
  obtain ⟨ps, ⟨g0, t0, cs0, f0, p0, q0, hg0, ht0, hv0, hd0, _, e0⟩, _, hrows⟩ := h2
  obtain rfl := Option.some.inj ((show Tryz.prog.globalNamed "pub-clamour/pub/alertmanager/matcher/parse.errEOF" = some 0 by kernel_rfl).symm.trans hg0)
  obtain rfl := Option.some.inj ((show (Tryz.prog.globals[0]?).map (·.type) = some 50 by kernel_rfl).symm.trans ht0)
  subst e0
  obtain ⟨l0⟩ := cs0
  have ok0 : ∀ u v, l0 = [.iface u v] → Value.okWide Tryz.prog w .any 0 u v := fun u v e => by
    subst e
    exact (hrows 0 0 (by simp [MemPlace.row])).2 u v (by simpa using World.var?_cell hg0 hv0 0)
  obtain ⟨a0, s0, rfl, hc0, hs0, hz0, rfl⟩ := errorString_of_trod Tryz.underlying50 rowErr Tryz.underlying116 Tryz.underlying118 rfl rfl Tryz.underlying9 (by kernel_rfl) (by kernel_rfl) hd0 ok0
  exact ⟨a0, by simpa using World.var?_cell hg0 hv0 0, (hrows a0.block a0.off (by simp [MemPlace.row])).1⟩
theorem TBq.of_laid {l : List (String × DataW Unit)} {w : World} (h : laidMetH Tryz.prog l w) (hp : (l.all fun x => x.2.handleName?.isNone) = true) (a b c i0 i1 i2 i3 i4 i5 i6 i7 i8 i9 i10 : Nat) (ha : l[a]? = some ("unicode/utf8.first", firstData)) (hb : l[b]? = some ("unicode/utf8.acceptRanges", acceptData)) (hc : l[c]? = some ("unicode.White_Space", whiteData)) (h0 : l[i0]? = some ("pub-clamour/pub/alertmanager/matcher/parse.errEOF", eq0D))  (h1 : l[i1]? = some ("pub-clamour/pub/alertmanager/matcher/parse.errExpectedEOF", eq1D))  (h2 : l[i2]? = some ("pub-clamour/pub/alertmanager/matcher/parse.errNoOpenBrace", eq2D))  (h3 : l[i3]? = some ("pub-clamour/pub/alertmanager/matcher/parse.errNoCloseBrace", eq3D))  (h4 : l[i4]? = some ("pub-clamour/pub/alertmanager/matcher/parse.errNoLabelName", eq4D))  (h5 : l[i5]? = some ("pub-clamour/pub/alertmanager/matcher/parse.errNoLabelValue", eq5D))  (h6 : l[i6]? = some ("pub-clamour/pub/alertmanager/matcher/parse.errNoOperator", eq6D))  (h7 : l[i7]? = some ("pub-clamour/pub/alertmanager/matcher/parse.errExpectedComma", eq7D))  (h8 : l[i8]? = some ("pub-clamour/pub/alertmanager/matcher/parse.errExpectedCommaOrCloseBrace", eq8D))  (h9 : l[i9]? = some ("pub-clamour/pub/alertmanager/matcher/parse.errExpectedMatcherOrCloseBrace", eq9D))  (h10 : l[i10]? = some ("strconv.ErrSyntax", eq10D)) : TBq w := by
  refine ⟨TBl.of_laid h hp a b c ha hb hc, ?_⟩
  rw [MakeChecks.laidMetH_plain _ _ _ hp] at h
  obtain ⟨ad, he, hk⟩ := eof_of_laid h i0 h0
  refine ⟨ad, he, hk, IsE.of_reads (t0 := 50) (by kernel_rfl) (by kernel_rfl) Tryz.underlying50 (Go.Lib.laidMet.reads h (List.mem_of_getElem? h1)), IsE.of_reads (t0 := 50) (by kernel_rfl) (by kernel_rfl) Tryz.underlying50 (Go.Lib.laidMet.reads h (List.mem_of_getElem? h2)), IsE.of_reads (t0 := 50) (by kernel_rfl) (by kernel_rfl) Tryz.underlying50 (Go.Lib.laidMet.reads h (List.mem_of_getElem? h3)), IsE.of_reads (t0 := 50) (by kernel_rfl) (by kernel_rfl) Tryz.underlying50 (Go.Lib.laidMet.reads h (List.mem_of_getElem? h4)), IsE.of_reads (t0 := 50) (by kernel_rfl) (by kernel_rfl) Tryz.underlying50 (Go.Lib.laidMet.reads h (List.mem_of_getElem? h5)), IsE.of_reads (t0 := 50) (by kernel_rfl) (by kernel_rfl) Tryz.underlying50 (Go.Lib.laidMet.reads h (List.mem_of_getElem? h6)), IsE.of_reads (t0 := 50) (by kernel_rfl) (by kernel_rfl) Tryz.underlying50 (Go.Lib.laidMet.reads h (List.mem_of_getElem? h7)), IsE.of_reads (t0 := 50) (by kernel_rfl) (by kernel_rfl) Tryz.underlying50 (Go.Lib.laidMet.reads h (List.mem_of_getElem? h8)), IsE.of_reads (t0 := 50) (by kernel_rfl) (by kernel_rfl) Tryz.underlying50 (Go.Lib.laidMet.reads h (List.mem_of_getElem? h9)), IsE.of_reads (t0 := 50) (by kernel_rfl) (by kernel_rfl) Tryz.underlying50 (Go.Lib.laidMet.reads h (List.mem_of_getElem? h10))⟩
end Go.Proofs.YtnnhehlieakedaaGreatDoor.Q
namespace Go.Proofs.YtnnhehlieakedaaGreatDoor.Q
open Go.RowKit Go.Lib Go.Shelf
set_option maxRecDepth 100000 in
theorem TBr.of_laid {l : List (String × DataW Unit)} {w : World} (h : laidMetH Tryz.prog l w) (hp : (l.all fun x => x.2.handleName?.isNone) = true) (a b c i0 i1 i2 i3 i4 i5 i6 i7 i8 i9 i10 p0 p1 p2 p3 : Nat) (ha : l[a]? = some ("unicode/utf8.first", firstData)) (hb : l[b]? = some ("unicode/utf8.acceptRanges", acceptData)) (hc : l[c]? = some ("unicode.White_Space", whiteData)) (h0 : l[i0]? = some ("pub-clamour/pub/alertmanager/matcher/parse.errEOF", eq0D))  (h1 : l[i1]? = some ("pub-clamour/pub/alertmanager/matcher/parse.errExpectedEOF", eq1D))  (h2 : l[i2]? = some ("pub-clamour/pub/alertmanager/matcher/parse.errNoOpenBrace", eq2D))  (h3 : l[i3]? = some ("pub-clamour/pub/alertmanager/matcher/parse.errNoCloseBrace", eq3D))  (h4 : l[i4]? = some ("pub-clamour/pub/alertmanager/matcher/parse.errNoLabelName", eq4D))  (h5 : l[i5]? = some ("pub-clamour/pub/alertmanager/matcher/parse.errNoLabelValue", eq5D))  (h6 : l[i6]? = some ("pub-clamour/pub/alertmanager/matcher/parse.errNoOperator", eq6D))  (h7 : l[i7]? = some ("pub-clamour/pub/alertmanager/matcher/parse.errExpectedComma", eq7D))  (h8 : l[i8]? = some ("pub-clamour/pub/alertmanager/matcher/parse.errExpectedCommaOrCloseBrace", eq8D))  (h9 : l[i9]? = some ("pub-clamour/pub/alertmanager/matcher/parse.errExpectedMatcherOrCloseBrace", eq9D))  (h10 : l[i10]? = some ("strconv.ErrSyntax", eq10D)) (j0 : l[p0]? = some ("strconv.isPrint16", sliceData .u16 goPrintTabs.p16)) (j1 : l[p1]? = some ("strconv.isNotPrint16", sliceData .u16 goPrintTabs.n16)) (j2 : l[p2]? = some ("strconv.isPrint32", sliceData .u32 goPrintTabs.p32)) (j3 : l[p3]? = some ("strconv.isNotPrint32", sliceData .u16 goPrintTabs.n32)) : TBr w := by
  refine ⟨TBq.of_laid h hp a b c i0 i1 i2 i3 i4 i5 i6 i7 i8 i9 i10 ha hb hc h0 h1 h2 h3 h4 h5 h6 h7 h8 h9 h10, ?_⟩
  rw [MakeChecks.laidMetH_plain _ _ _ hp] at h
  exact ⟨
    tabSlice_of_reads (g := 12) (by kernel_rfl) (t := 224) (by kernel_rfl) Tryz.underlying224 Tryz.underlying184 (by kernel_rfl) (by decide) (Go.Lib.laidMet.reads h (List.mem_of_getElem? j0)),
    tabSlice_of_reads (g := 13) (by kernel_rfl) (t := 224) (by kernel_rfl) Tryz.underlying224 Tryz.underlying184 (by kernel_rfl) (by decide) (Go.Lib.laidMet.reads h (List.mem_of_getElem? j1)),
    tabSlice_of_reads (g := 14) (by kernel_rfl) (t := 226) (by kernel_rfl) Tryz.underlying226 Tryz.underlying148 (by kernel_rfl) (by decide) (Go.Lib.laidMet.reads h (List.mem_of_getElem? j2)),
    tabSlice_of_reads (g := 15) (by kernel_rfl) (t := 224) (by kernel_rfl) Tryz.underlying224 Tryz.underlying184 (by kernel_rfl) (by decide) (Go.Lib.laidMet.reads h (List.mem_of_getElem? j3)),
    by decide, by decide, by decide⟩
end Go.Proofs.YtnnhehlieakedaaGreatDoor.Q
