/- A set of labels that the program makes of pairs: what impl.labelSet returns, and how a value is looked up in it. No condition beyond the lengths named. The labels that pairs make, after the documentation: what spec.Set returns. No condition beyond the length named. A set of labels that pairs make, as a map and as the documentation's list: they are one. No condition. A set of labels is told by the last label of each name. No condition. -/
import Derived.Test.YtikhlolhodgegaaHKinds
import Derived.Maps.OwnSet
import Derived.Maps.StringElems
import Derived.Maps.RangeWalk
import Derived.Sort.KeysCollected
import Derived.WalkLawsBesides
import Derived.Deep.RegionLaw
set_option linter.unusedVariables false
set_option linter.unusedSimpArgs false
namespace Go.Proofs.Ytikhlolhodgegaa.Q
open Go.RowKit Go.Proofs.YtikhlolhodgegaaW.PrintWords Go.Proofs.YtikhlolhodgegaaW.PrintLast Go.Proofs.YtikhlolhodgegaaW.PrintMore
open Go.Maps (Keyed string_keyed)
open Go.WideElems (Fit)
attribute [local go_sem] max2_int min2_int max_two min_two max_three min_three max_four min_four

/-- A set of labels as a datum, and the one that pairs make. -/
def mput (D : DataW Unit) (p : S26) : DataW Unit := D.put (.string p.f0.data.toList) (.lit (.string p.f1.data.toList))
def mset (l : List S26) : DataW Unit := l.foldl mput (.map [])
theorem mset_snoc (l : List S26) (p : S26) : mset (l ++ [p]) = (mset l).put (.string p.f0.data.toList) (.lit (.string p.f1.data.toList)) := by simp [mset, mput]
/-- All texts are as long as the form reads. -/
def shortPairs (l : List S26) : Prop := ∀ p ∈ l, p.f0.size ≤ 140737488355328 ∧ p.f1.size ≤ 140737488355328
theorem keyed67 : Keyed Try.prog 105 := string_keyed Try.underlying105
theorem take_step26 (l : List S26) (x : Int) (h0 : 0 ≤ x) (h1 : x < (l.length : Int)) : l.take (x + 1).toNat = l.take x.toNat ++ [rd_T26 l x] ∧ rd_T26 l x ∈ l := by
  obtain ⟨n, rfl⟩ := Int.eq_ofNat_of_zero_le h0
  have e : ((n : Int) + 1).toNat = n + 1 := by omega
  rw [e, Int.toNat_natCast, List.take_succ_eq_append_getElem (by omega)]
  have e2 : rd_T26 l n = l[n] := by simp [rd_T26, List.getD_eq_getElem?_getD, List.getElem?_eq_getElem (show n < l.length by omega)]
  rw [e2]
  exact ⟨rfl, List.getElem_mem _⟩
/-- Block b of w is a set of labels that reads as D. -/
def OwnsSet (w : World) (b n : Nat) (D : DataW Unit) : Prop := w.ownsMap Try.prog 105 (plainElem Try.prog 110) b n D
set_option maxRecDepth 100000 in
set_option maxHeartbeats 800000 in
theorem labelSet_calls (A0 : Option Addr) (c0 : Nat) (l0 : List S26) (w : World) (hr0 : Kd.C k26 w A0 l0.length l0) (_hc0 : l0.length ≤ c0) (hlen : l0.length ≤ 10000000000) (hs : shortPairs l0) :
    Calls Try.prog 56 #[.slice A0 l0.length c0] w fun e w' => ∃ b, e = .returned (.map (some b)) ∧ w.heap.size ≤ b ∧ OwnsSet w' b l0.length (mset l0) ∧ Below w.heap.size w w' := by
  have hu26 := Try.underlying26
  have hmm := @run_makeMap Try.prog
  have HR0 := Aside0.mk hr0
  have HS := Aside0.mk hs
  clear hr0 hs
  have HB := Aside0.mk (Below.refl w.heap.size w)
  go_enter Try.func56, Try.ntmps56
  go_wp2
  go_loopw [9] (fun v9 w' => ∃ x : Int, 0 ≤ x ∧ x ≤ (l0.length : Int) ∧ v9 = .int .i64 x ∧ Aside0 (OwnsSet w' w.heap.size x.toNat (mset (l0.take x.toNat))) ∧ Aside0 (Below w.heap.size w w')) (fun v9 _ => ((l0.length : Int) - intOf v9).toNat)
  case atStart => exact ⟨0, by omega, by omega, rfl, ⟨World.ownsMap_made _ _ _ _⟩, ⟨below_alloc HB.out _⟩⟩
  case round =>
    obtain ⟨x, hx, hxl, rfl, HO, HB⟩ := hrel
    by_cases hlt : x < (l0.length : Int)
    · obtain ⟨ad, e1, hx0, hx1⟩ := at_T26 HR0.out x hx hlt
      cases e1
      replace hx0 := (HB.out.cell (World.block_lt_of_cell? w _ hx0)).trans hx0
      replace hx1 := (HB.out.cell (World.block_lt_of_cell? w _ hx1)).trans hx1
      have hp := eq_true hx
      have hq := eq_true hlt
      have hst := take_step26 l0 x hx hlt
      generalize rd_T26 l0 x = p at *
      have hsp := HS.out p hst.2
      have hst := Aside0.mk hst.1
      have HK : Aside0 (keyOf Try.prog 105 (.string p.f0) = some (.string p.f0.data.toList)) := ⟨WideMaps.keyOf_string_mk Try.underlying105 (by unfold maxLen; omega)⟩
      have HV : Aside0 (plainElem (H := Unit) Try.prog 110 (.string p.f1) = some (.lit (.string p.f1.data.toList), [])) := ⟨plainElem_string Try.underlying110 (by unfold maxLen; omega)⟩
      clear hsp
      go_wp2_with (at_mapUpdate; refine wpList_mapUpdate_own _ rfl _ _ _ 65 rfl 105 110 keyed67 Try.underlying65 (plainElem Try.prog 110) w.heap.size x.toNat (mset (l0.take x.toNat)) rfl (World.ownsMap.alloc HO.out _) (by unfold maxLen; omega) _ _ _ rfl rfl HK.out _ [] HV.out ?_; intro w1 hown1 hgrow1; have HO2 := Aside0.mk hown1; have HB2 := Aside0.mk (Below.grown (below_alloc HB.out _) hgrow1 (below_alloc HB.out _).size (fun j hj => by cases hj; exact Nat.le_refl _)); clear hown1 hgrow1)
      go_roundw
      case rel => exact ⟨x + 1, by omega, by omega, rfl, ⟨by rw [hst.out, mset_snoc]; have e : (x + 1).toNat = x.toNat + 1 := by omega
                                                             rw [e]; exact HO2.out⟩, HB2⟩
      case measure => simp [intOf]; omega
    · have hxe : x = (l0.length : Int) := by omega
      subst hxe
      have HO := HO.out
      simp only [Int.toNat_natCast, List.take_length] at HO
      have HO := Aside0.mk HO
      go_wp2
      go_ret
      exact ⟨w.heap.size, rfl, Nat.le_refl _, HO.out, HB.out⟩
/-- The value of a name in a set of labels: the empty text if there is none. -/
def valD (D : DataW Unit) (k : ByteArray) : ByteArray :=
  match D.atKey (.string k.data.toList) (.lit (.string [])) with
  | .lit (.string l) => ⟨l.toArray⟩
  | _ => ⟨#[]⟩
theorem valD_of {D : DataW Unit} {k s : ByteArray} (h : D.atKey (.string k.data.toList) (.lit (.string [])) = .lit (.string s.data.toList)) : s = valD D k := by
  unfold valD
  rw [h]
theorem zero68 (w : World) : (zeroValue 110).run Try.prog w = .ok (.string ⟨#[]⟩) w := by kernel_rfl
theorem lookup_str {P : Program} (w : World) {ops : Array Oper} {rest : List Oper} {o : Oper} {a : Act} {Q : Exit → Act → World → Prop}
    (hg : o.guard = none) (m x : Operand) (t : TypeId) (hop : o.op = Op.lookup t m x false)
    (k e : TypeId) (K : Keyed P k) (ht : P.underlying t = some (.map k e)) (he : P.underlying e = some .string) (hz : (zeroValue e).run P w = .ok (.string ⟨#[]⟩) w) (b n : Nat) (D : DataW Unit)
    (hm : a.eval m = .map (some b)) (hown : w.ownsMap P k (plainElem P e) b n D) (key : Value) (ks : ByteArray) (hx : a.eval x = key) (hkey : keyOf P k key = some (.string ks.data.toList))
    (hK : ∀ s : ByteArray, s = valD D ks → s.size ≤ maxLen → wpList P ops Q rest (a.put o.dst (.string s)) w) :
    wpList P ops Q (o :: rest) a w := by
  refine wpList_plain hg fun K' hK' => ?_
  obtain ⟨v, ps, hrun, hv⟩ := hown.lookup K ht hz (plainElem_string he (s := ⟨#[]⟩) (Nat.zero_le _)) hkey
  obtain ⟨s, rfl, hc, hl⟩ := plainElem_string_inv he hv
  simp only [Prod.mk.injEq] at hc
  unfold Oper.wp
  simp [execOp, hop, hm, hx, hrun, Result.andThen]
  exact hK' _ _ (hK s (valD_of hc.1) hl)

instance (l : List S26) : Decidable (shortPairs l) := inferInstanceAs (Decidable (∀ p ∈ l, _))
theorem own_R_below {w w1 : World} {b n : Nat} {D : DataW Unit} (h : OwnsSet w b n D) (hb : Below w.heap.size w w1) : OwnsSet w1 b n D := h.kept (grown_of_below hb none) (by simp)
end Go.Proofs.Ytikhlolhodgegaa.Q
namespace Go.Proofs.Ytikhlolhodgegaa.Q
open Go.RowKit Go.Proofs.YtikhlolhodgegaaW.PrintWords Go.Proofs.YtikhlolhodgegaaW.PrintLast Go.Proofs.YtikhlolhodgegaaW.PrintMore
attribute [local go_sem] max2_int min2_int max_two min_two max_three min_three max_four min_four
def ltP (q p : S59) : Bool := Op.bytesLess q.f0.toList p.f0.toList
def neP (p q : S59) : Bool := !(q.f0.toList == p.f0.toList)
def insP (p : S59) (out : List S59) : List S59 := out.takeWhile (fun q => ltP q p) ++ [p] ++ out.dropWhile (fun q => ltP q p)
def setStep (p : S59) (r out : List S59) : List S59 := if r.all (neP p) = true then insP p out else out
def setGo : List S59 → List S59 → List S59
  | [], out => out
  | p :: r, out => setGo r (setStep p r out)
theorem drop_stepSP (l : List S59) (x : Int) (h0 : 0 ≤ x) (h1 : x < (l.length : Int)) : l.drop x.toNat = rd_T59 l x :: l.drop (x + 1).toNat := by
  obtain ⟨n, rfl⟩ := Int.eq_ofNat_of_zero_le h0
  have e : ((n : Int) + 1).toNat = n + 1 := by omega
  rw [e, Int.toNat_natCast, List.drop_eq_getElem_cons (by omega)]
  simp [rd_T59, List.getD_eq_getElem?_getD, List.getElem?_eq_getElem (show n < l.length by omega)]
theorem take_stepSP (l : List S59) (x : Int) (h0 : 0 ≤ x) (h1 : x < (l.length : Int)) : l.take (x + 1).toNat = l.take x.toNat ++ [rd_T59 l x] := by
  obtain ⟨n, rfl⟩ := Int.eq_ofNat_of_zero_le h0
  have e : ((n : Int) + 1).toNat = n + 1 := by omega
  rw [e, Int.toNat_natCast, List.take_succ_eq_append_getElem (by omega)]
  simp [rd_T59, List.getD_eq_getElem?_getD, List.getElem?_eq_getElem (show n < l.length by omega)]
theorem while_at (f : S59 → Bool) (l : List S59) (n : Nat) (hn : n ≤ l.length) (h1 : ∀ q ∈ l.take n, f q = true) (h2 : ∀ q r, l.drop n = q :: r → f q = false) : l.takeWhile f = l.take n ∧ l.dropWhile f = l.drop n := by
  induction l generalizing n with
  | nil => simp
  | cons a l ih =>
    cases n with
    | zero => simp [List.takeWhile_cons, List.dropWhile_cons, h2 a l rfl]
    | succ n =>
      have ha := h1 a (by simp)
      have := ih n (by simpa using hn) (fun q hq => h1 q (by simp [hq])) (fun q r h => h2 q r (by simpa using h))
      simp [List.takeWhile_cons, List.dropWhile_cons, ha, this.1, this.2]
theorem insP_at {p : S59} {out : List S59} {y : Int} (h0 : 0 ≤ y) (hy : y ≤ (out.length : Int)) (h1 : ∀ q ∈ out.take y.toNat, ltP q p = true) (h2 : y < (out.length : Int) → ltP (rd_T59 out y) p = false) : insP p out = out.take y.toNat ++ [p] ++ out.drop y.toNat := by
  obtain ⟨a, b⟩ := while_at (fun q => ltP q p) out y.toNat (by omega) h1 (fun q r h => by
    have hlt : y < (out.length : Int) := by
      rcases Int.lt_or_le y out.length with g | g
      · exact g
      · rw [List.drop_of_length_le (by omega)] at h; cases h
    rw [drop_stepSP out y h0 hlt] at h
    injection h with h3 h4
    rw [← h3]; exact h2 hlt)
  unfold insP
  rw [a, b]
theorem setStep_yes {p : S59} {r out : List S59} (h : r.all (neP p) = true) : setStep p r out = insP p out := if_pos h
theorem setStep_no {p : S59} {r out : List S59} (h : r.all (neP p) = false) : setStep p r out = out := if_neg (by simp [h])
theorem infoSP : (Try.prog.info? 59).map (fun i => (i.zero, i.size, i.bytes)) = some (some (.agg #[.string ⟨#[]⟩, .string ⟨#[]⟩]), 2, 32) := by kernel_rfl
theorem name_world {P : Program} {c : Code} {Q : Exit → Act → World → Prop} {a : Act} {w : World} (w0 : World) (h : Drawn0 w0 w) (k : ∀ W, Drawn0 w0 W → Code.wp P c Q a W) : Code.wp P c Q a w := k w h
theorem blkN0 {w : World} {o : Obj} {g : Nat} (h : g = w.heap.size) : (w.alloc o).heap[g]? = some o := by subst h; exact blk_new w o
theorem blkO0 {w : World} {o o' : Obj} {g : Nat} (h : w.heap[g]? = some o) : (w.alloc o').heap[g]? = some o := by
  have hlt : g < w.heap.size := by
    rcases Nat.lt_or_ge g w.heap.size with h1 | h1
    · exact h1
    · rw [Array.getElem?_eq_none h1] at h; cases h
  have := (below_alloc (Below.refl w.heap.size w) o').block g hlt
  rw [this, h]
theorem blkN {w : World} {o : Obj} {g : Nat} (h : g = w.heap.size) : (w.alloc o).drew.heap[g]? = some o := blkN0 h
theorem blkO {w : World} {o o' : Obj} {g : Nat} (h : w.heap[g]? = some o) : (w.alloc o').drew.heap[g]? = some o := blkO0 h
theorem R_emptySP (w : World) (base g : Nat) (hb : w.heap[g]? = some (.cells #[] 59 (0, 0))) (h : base ≤ g) : Kd.R k59 59 w base (fun _ => True) (.slice (some ⟨g, 0, none⟩) 0 0) [] :=
  ⟨fun _ _ => trivial, [], ⟨rfl, .inr ⟨g, 0, #[], rfl, h, by simpa using hb, by simp, by simp, by simp [maxLen], by simp⟩⟩, ⟨rfl, fun j p hj => by simp at hj⟩⟩
theorem C_boxSP (w : World) (g : Nat) (p : S59) (hb : w.heap[g]? = some (.cells #[.string p.f0, .string p.f1] 59 (0, 0))) : Kd.C k59 w (some ⟨g, 0, none⟩) 1 [p] :=
  ⟨rfl, by simp, fun _ => ⟨_, rfl, by
    intro j q hj
    cases j with
    | succ j => simp at hj
    | zero =>
      obtain rfl : p = q := by simpa using hj
      refine ⟨_, rfl, k59_mk _ _, ?_⟩
      intro i u hu
      have h0 := (blk_cell hb 0).trans rfl
      have h1 := (blk_cell hb 1).trans rfl
      rcases i with _ | _ | i
      · cases hu; exact h0
      · cases hu; exact h1
      · simp at hu⟩⟩
theorem MofSP {w w1 : World} {base : Nat} {ok : Nat → Prop} : ∀ x cs, k59.K w x cs → k59.M w1 base ok x cs := by
  intro x cs h
  obtain rfl := k59_open h
  exact k59_mkM _ _ _ _
end Go.Proofs.Ytikhlolhodgegaa.Q
namespace Go.Proofs.Ytikhlolhodgegaa.Q
open Go.RowKit
theorem bless_eqS : ∀ (x y : List UInt8), Op.bytesLess x y = decide (x < y)
  | [], [] => by simp [Op.bytesLess]
  | _ :: _, [] => by simp [Op.bytesLess]
  | [], _ :: _ => by simp [Op.bytesLess]
  | a :: x, b :: y => by
    rw [Op.bytesLess, bless_eqS x y]
    simp only [List.cons_lt_cons_iff]
    by_cases h1 : a < b <;> by_cases h2 : a = b <;> by_cases h3 : x < y <;> simp [h1, h2, h3]
theorem bbef_eqS : ∀ (x y : List UInt8), bytesBefore x y = decide (x < y)
  | [], [] => by simp [bytesBefore]
  | _ :: _, [] => by simp [bytesBefore]
  | [], _ :: _ => by simp [bytesBefore]
  | a :: x, b :: y => by
    rw [bytesBefore, bbef_eqS x y]
    simp only [List.cons_lt_cons_iff]
    by_cases h1 : a < b <;> by_cases h2 : a = b <;> by_cases h3 : x < y <;> simp [h1, h2, h3]
def nm (q : S59) : List UInt8 := q.f0.data.toList
theorem toL (b : ByteArray) : b.toList = b.data.toList := Lib.toList_data b
theorem ltP_iff (q p : S59) : ltP q p = true ↔ nm q < nm p := by unfold ltP nm; rw [bless_eqS, toL, toL]; simp
theorem neP_iff (p q : S59) : neP p q = true ↔ nm q ≠ nm p := by unfold neP nm; rw [toL, toL]; simp
theorem lt_trS {a b c : List UInt8} (h : a < b) (k : b < c) : a < c := List.lt_trans h k
theorem lt_triS (a b : List UInt8) : a < b ∨ a = b ∨ b < a := by
  rcases Classical.em (a < b) with h | h
  · exact .inl h
  · rcases Classical.em (b < a) with k | k
    · exact .inr (.inr k)
    · exact .inr (.inl (List.le_antisymm (List.not_lt.1 k) (List.not_lt.1 h)))
def SortedP (X : List S59) : Prop := X.Pairwise (fun a b => nm a < nm b)
def insF (p : S59) (X : List S59) : List S59 := X.filter (fun q => ltP q p) ++ [p] ++ X.filter (fun q => !ltP q p)
theorem while_sorted (p : S59) : ∀ X : List S59, SortedP X → X.takeWhile (fun q => ltP q p) = X.filter (fun q => ltP q p) ∧ X.dropWhile (fun q => ltP q p) = X.filter (fun q => !ltP q p)
  | [], _ => ⟨rfl, rfl⟩
  | a :: X, h => by
    have h' := List.pairwise_cons.1 h
    obtain ⟨i1, i2⟩ := while_sorted p X h'.2
    cases ha : ltP a p
    · have hn : ∀ b ∈ X, ltP b p = false := by
        intro b hb
        cases hb2 : ltP b p
        · rfl
        · have : ltP a p = true := (ltP_iff a p).2 (lt_trS (h'.1 b hb) ((ltP_iff b p).1 hb2))
          rw [ha] at this; cases this
      have e1 : X.filter (fun q => ltP q p) = [] := List.filter_eq_nil_iff.2 (fun b hb => by simp [hn b hb])
      have e2 : X.filter (fun q => !ltP q p) = X := List.filter_eq_self.2 (fun b hb => by simp [hn b hb])
      simp [List.takeWhile_cons, List.dropWhile_cons, ha, e1, e2]
    · simp [List.takeWhile_cons, List.dropWhile_cons, ha, i1, i2]
theorem insP_sorted {p : S59} {X : List S59} (h : SortedP X) : insP p X = insF p X := by
  unfold insP insF
  rw [(while_sorted p X h).1, (while_sorted p X h).2]
theorem sorted_filter {X : List S59} (h : SortedP X) (f : S59 → Bool) : SortedP (X.filter f) := List.Pairwise.filter f h
theorem insF_sorted {p : S59} {X : List S59} (h : SortedP X) (hn : ∀ q ∈ X, nm q ≠ nm p) : SortedP (insF p X) := by
  unfold insF SortedP
  rw [List.append_assoc, List.pairwise_append]
  refine ⟨sorted_filter h _, ?_, ?_⟩
  · show List.Pairwise _ (p :: _)
    rw [List.pairwise_cons]
    refine ⟨fun q hq => ?_, sorted_filter h _⟩
    obtain ⟨hq, hl⟩ := List.mem_filter.1 hq
    rcases lt_triS (nm p) (nm q) with g | g | g
    · exact g
    · exact absurd g.symm (hn q hq)
    · rw [(ltP_iff q p).2 g] at hl; cases hl
  · intro a ha b hb
    obtain ⟨ha, hl⟩ := List.mem_filter.1 ha
    have hap : nm a < nm p := (ltP_iff a p).1 hl
    rcases List.mem_append.1 hb with hb | hb
    · rw [List.mem_singleton.1 hb]; exact hap
    · obtain ⟨hb, hl2⟩ := List.mem_filter.1 hb
      rcases lt_triS (nm p) (nm b) with g | g | g
      · exact lt_trS hap g
      · rw [← g]; exact hap
      · rw [(ltP_iff b p).2 g] at hl2; cases hl2
def putP (out : List S59) (p : S59) : List S59 := insF p (out.filter (fun q => neP p q))
theorem putP_sorted {p : S59} {X : List S59} (h : SortedP X) : SortedP (putP X p) :=
  insF_sorted (sorted_filter h _) (fun q hq => (neP_iff p q).1 (List.mem_filter.1 hq).2)
theorem neP_comm (p q : S59) : neP p q = neP q p := by
  refine Bool.eq_iff_iff.2 ?_
  rw [neP_iff, neP_iff]
  exact ⟨fun h g => h g.symm, fun h g => h g.symm⟩
theorem insF_filter (p : S59) (X : List S59) (g : S59 → Bool) (hg : g p = true) : (insF p X).filter g = insF p (X.filter g) := by
  unfold insF
  simp only [List.filter_append, List.filter_filter, List.filter_cons, hg, if_true, List.filter_nil]
  congr 1
  · congr 1
    exact List.filter_congr (fun q _ => Bool.and_comm _ _)
  · exact List.filter_congr (fun q _ => Bool.and_comm _ _)
theorem filter_split (X : List S59) (p : S59) (h : SortedP X) : X.filter (fun q => ltP q p) ++ X.filter (fun q => !ltP q p) = X := by
  rw [← (while_sorted p X h).1, ← (while_sorted p X h).2]
  exact List.takeWhile_append_dropWhile
theorem put_filter (p : S59) (r out : List S59) (h : SortedP out) : (putP out p).filter (fun q => r.all (neP q)) = setStep p r (out.filter (fun q => (p :: r).all (neP q))) := by
  have he : out.filter (fun q => (p :: r).all (neP q)) = (out.filter (fun q => neP p q)).filter (fun q => r.all (neP q)) := by
    rw [List.filter_filter]
    exact List.filter_congr (fun q _ => by rw [List.all_cons, neP_comm, Bool.and_comm])
  unfold setStep
  have hs := sorted_filter (sorted_filter h (fun q => neP p q)) (fun q => r.all (neP q))
  cases hr : r.all (neP p)
  · rw [if_neg (by simp), he]
    unfold putP insF
    simp only [List.filter_append, List.filter_cons, hr, List.filter_nil]
    simp only [Bool.false_eq_true, if_false, List.append_nil]
    rw [← List.filter_append, filter_split _ p (sorted_filter h _)]
  · rw [if_pos rfl, he, insP_sorted hs]
    exact insF_filter p _ (fun q => r.all (neP q)) hr
theorem setGo_fold : ∀ (l out : List S59), SortedP out → l.foldl putP out = setGo l (out.filter (fun q => l.all (neP q)))
  | [], out, _ => by
    have : out.filter (fun q => ([] : List S59).all (neP q)) = out := List.filter_eq_self.2 (fun _ _ => rfl)
    rw [this]; rfl
  | p :: r, out, h => by
    rw [List.foldl_cons, setGo_fold r _ (putP_sorted h), put_filter p r out h]
    rfl
theorem setGo_is (l : List S59) : setGo l [] = l.foldl putP [] := by
  rw [setGo_fold l [] List.Pairwise.nil]; rfl
theorem fold_sorted : ∀ (l out : List S59), SortedP out → SortedP (l.foldl putP out)
  | [], _, h => h
  | _ :: r, _, h => fold_sorted r _ (putP_sorted h)
theorem setGo_sorted (l : List S59) : SortedP (setGo l []) := by rw [setGo_is]; exact fold_sorted l [] List.Pairwise.nil
/-- A label as an entry of a map. -/
def ent (q : S59) : Lit × DataW Unit := (.string (nm q), .lit (.string q.f1.data.toList))
def conv (p : S26) : S59 := ⟨p.f0, p.f1⟩
theorem insert_is (p : S59) : ∀ X : List S59, (∀ q ∈ X, nm q ≠ nm p) → DataW.insert (ent p) (X.map ent) = (insP p X).map ent
  | [], _ => rfl
  | a :: X, h => by
    have ih := insert_is p X (fun q hq => h q (by simp [hq]))
    show (if (Lit.string (nm p)).before (Lit.string (nm a)) = true then ent p :: ent a :: X.map ent else ent a :: DataW.insert (ent p) (X.map ent)) = _
    have e : (Lit.string (nm p)).before (Lit.string (nm a)) = decide (nm p < nm a) := bbef_eqS _ _
    rw [e]
    unfold insP
    cases ha : ltP a p
    · have hlt : nm p < nm a := by
        rcases lt_triS (nm p) (nm a) with g | g | g
        · exact g
        · exact absurd g.symm (h a (by simp))
        · rw [(ltP_iff a p).2 g] at ha; cases ha
      simp [hlt, List.takeWhile_cons, List.dropWhile_cons, ha]
    · have hlt : ¬ nm p < nm a := fun g => List.lt_irrefl _ (lt_trS g ((ltP_iff a p).1 ha))
      rw [if_neg (by simp [hlt]), ih]
      simp [insP, List.takeWhile_cons, List.dropWhile_cons, ha]
theorem put_is (p : S59) (X : List S59) (h : SortedP X) : (DataW.map (X.map ent)).put (.string (nm p)) (.lit (.string p.f1.data.toList)) = .map ((putP X p).map ent) := by
  show DataW.map (DataW.insert (ent p) ((X.map ent).filter fun e => !e.1.sameKey (.string (nm p)))) = _
  have hf : (X.map ent).filter (fun e => !e.1.sameKey (.string (nm p))) = (X.filter (fun q => neP p q)).map ent := by
    rw [List.filter_map]
    refine congrArg (List.map ent) (List.filter_congr fun q _ => ?_)
    have : neP p q = !(nm q == nm p) := by unfold neP nm; rw [toL, toL]
    rw [this]; rfl
  rw [hf, insert_is p _ (fun q hq => (neP_iff p q).1 (List.mem_filter.1 hq).2), insP_sorted (sorted_filter h _)]
  rfl
theorem mset_fold : ∀ (l : List S26) (X : List S59), SortedP X → l.foldl mput (.map (X.map ent)) = .map (((l.map conv).foldl putP X).map ent)
  | [], _, _ => rfl
  | p :: r, X, h => by
    rw [List.foldl_cons, List.map_cons, List.foldl_cons, ← mset_fold r _ (putP_sorted h)]
    congr 1
    exact put_is (conv p) X h
/-- The map that pairs make, entry by entry, is the documentation's list. -/
theorem mset_is (l : List S26) : mset l = .map ((setGo (l.map conv) []).map ent) := by
  rw [setGo_is]
  exact mset_fold l [] List.Pairwise.nil
theorem keys_is (l : List S26) : strKeys (mset l) = (setGo (l.map conv) []).map nm := by
  rw [mset_is]
  show (((setGo (l.map conv) []).map ent).map fun p => strOf p.1) = _
  rw [List.map_map]; rfl
theorem find_ent (X : List S59) (h : SortedP X) : ∀ q ∈ X, (X.map ent).find? (fun p => p.1.sameKey (.string (nm q))) = some (ent q) := by
  induction X with
  | nil => simp
  | cons a X ih =>
    have h' := List.pairwise_cons.1 h
    intro q hq
    rw [List.map_cons, List.find?_cons]
    rcases List.mem_cons.1 hq with rfl | hq
    · have : (ent q).1.sameKey (.string (nm q)) = true := by show (nm q == nm q) = true; simp
      rw [this]
    · have : (ent a).1.sameKey (.string (nm q)) = false := by
        show (nm a == nm q) = false
        refine beq_eq_false_iff_ne.2 fun e => ?_
        have := h'.1 q hq
        rw [e] at this; exact List.lt_irrefl _ this
      rw [this]
      exact ih h'.2 q hq
theorem ba_eq (b : ByteArray) : (⟨b.data.toList.toArray⟩ : ByteArray) = b := by cases b; simp
theorem val_is (l : List S26) (q : S59) (hq : q ∈ setGo (l.map conv) []) : valD (mset l) q.f0 = q.f1 := by
  have := find_ent _ (setGo_sorted (l.map conv)) q hq
  have e : (mset l).atKey (.string q.f0.data.toList) (.lit (.string [])) = .lit (.string q.f1.data.toList) := by
    rw [mset_is]
    have this' : ((setGo (l.map conv) []).map ent).find? (fun p => p.1.sameKey (.string q.f0.data.toList)) = some (ent q) := this
    simp only [DataW.atKey, this']
    rfl
  exact (valD_of e).symm
theorem size_is (l : List S26) : Maps.size (mset l) = (setGo (l.map conv) []).length := by
  rw [mset_is]; simp [Maps.size]
theorem mem_insP {p q : S59} {X : List S59} (h : q ∈ insP p X) : q = p ∨ q ∈ X := by
  unfold insP at h
  rcases List.mem_append.1 h with h | h
  · rcases List.mem_append.1 h with h | h
    · exact .inr ((List.takeWhile_sublist _).subset h)
    · exact .inl (List.mem_singleton.1 h)
  · exact .inr ((List.dropWhile_sublist _).subset h)
theorem mem_setGo : ∀ (l out : List S59) (q : S59), q ∈ setGo l out → q ∈ l ∨ q ∈ out
  | [], _, _, h => .inr h
  | p :: r, out, q, h => by
    rcases mem_setGo r _ q h with h | h
    · exact .inl (by simp [h])
    · unfold setStep at h
      split at h
      · rcases mem_insP h with h | h
        · exact .inl (by simp [h])
        · exact .inr h
      · exact .inr h
theorem insP_len (p : S59) (X : List S59) : (insP p X).length = X.length + 1 := by
  unfold insP
  have := congrArg List.length (List.takeWhile_append_dropWhile (p := fun q => ltP q p) (l := X))
  rw [List.length_append] at this
  simp only [List.length_append, List.length_cons, List.length_nil]
  omega
theorem Sset_len : ∀ (l out : List S59), (setGo l out).length ≤ l.length + out.length
  | [], out => by simp [setGo]
  | p :: r, out => by
    have := Sset_len r (setStep p r out)
    have h2 : (setStep p r out).length ≤ out.length + 1 := by
      unfold setStep
      split
      · rw [insP_len]; omega
      · omega
    simp only [setGo, List.length_cons]
    omega
end Go.Proofs.Ytikhlolhodgegaa.Q
namespace Go.Proofs.Ytikhlolhodgegaa.Q
open Go.RowKit
def lastP (l : List S59) (n : List UInt8) : Option S59 := l.reverse.find? (fun q => nm q == n)
theorem lastP_snoc (l : List S59) (p : S59) (n : List UInt8) : lastP (l ++ [p]) n = if nm p = n then some p else lastP l n := by
  unfold lastP
  rw [List.reverse_append]
  show List.find? _ (p :: l.reverse) = _
  rw [List.find?_cons]
  by_cases h : nm p = n
  · rw [if_pos h, beq_iff_eq.2 h]
  · rw [if_neg h, beq_eq_false_iff_ne.2 h]
theorem lastP_app (l r : List S59) (n : List UInt8) : lastP (l ++ r) n = (lastP r n).or (lastP l n) := by
  unfold lastP
  rw [List.reverse_append, List.find?_append]
theorem mem_insF (p q : S59) (X : List S59) : q ∈ insF p X ↔ q = p ∨ q ∈ X := by
  unfold insF
  simp only [List.mem_append, List.mem_filter, List.mem_singleton]
  constructor
  · rintro ((⟨h, _⟩ | h) | ⟨h, _⟩)
    · exact .inr h
    · exact .inl h
    · exact .inr h
  · rintro (h | h)
    · exact .inl (.inr h)
    · cases hl : ltP q p
      · exact .inr ⟨h, by simp⟩
      · exact .inl (.inl ⟨h, rfl⟩)
theorem mem_fold (q : S59) : ∀ l : List S59, q ∈ l.reverse.foldl putP [] ↔ lastP l.reverse (nm q) = some q
  | [] => by simp [lastP]
  | p :: l => by
    rw [List.reverse_cons, List.foldl_append, List.foldl_cons, List.foldl_nil, lastP_snoc]
    unfold putP
    rw [mem_insF, List.mem_filter, neP_iff]
    by_cases h : nm p = nm q
    · rw [if_pos h]
      constructor
      · rintro (h1 | ⟨_, h1⟩)
        · rw [h1]
        · exact absurd h.symm h1
      · intro h1; exact .inl (Option.some.inj h1).symm
    · rw [if_neg h, ← mem_fold q l]
      constructor
      · rintro (h1 | ⟨h1, _⟩)
        · exact absurd (by rw [h1]) h
        · exact h1
      · intro h1; exact .inr ⟨h1, fun e => h e.symm⟩
theorem mem_setGo_iff (l : List S59) (q : S59) : q ∈ setGo l [] ↔ lastP l (nm q) = some q := by
  rw [setGo_is]
  have := mem_fold q l.reverse
  rwa [List.reverse_reverse] at this
theorem sorted_nodup {X : List S59} (h : SortedP X) : X.Nodup := List.Pairwise.imp (fun hab e => by rw [e] at hab; exact List.lt_irrefl _ hab) h
theorem sorted_ext {X Y : List S59} (hX : SortedP X) (hY : SortedP Y) (h : ∀ q, q ∈ X ↔ q ∈ Y) : X = Y :=
  List.Perm.eq_of_pairwise (le := fun a b => nm a < nm b) (fun a b _ _ h1 h2 => absurd (lt_trS h1 h2) (List.lt_irrefl _)) hX hY ((List.perm_ext_iff_of_nodup (sorted_nodup hX) (sorted_nodup hY)).2 h)
theorem setGo_ext {l r : List S59} (h : ∀ n, lastP l n = lastP r n) : setGo l [] = setGo r [] :=
  sorted_ext (setGo_sorted l) (setGo_sorted r) (fun q => by rw [mem_setGo_iff, mem_setGo_iff, h])
theorem lastP_nm {l : List S59} {n : List UInt8} {q : S59} (h : lastP l n = some q) : nm q = n := by
  have := List.find?_some h
  simpa using this
end Go.Proofs.Ytikhlolhodgegaa.Q
