/- A set of labels that pairs make, as a map and as the documentation's list: they are one. No condition. -/
import Derived.Test.YtikhlolhodgegaaHSpecSetA
import Derived.Test.YtikhlolhodgegaaHSets
set_option linter.unusedVariables false
set_option linter.unusedSimpArgs false
namespace Go.Proofs.Ytikhlolhodgegaa.Q
open Go.RowKit
theorem bless_eqS : ∀ (x y : List UInt8), Op.bytesLess x y = decide (x < y)
  | [], [] => by simp [Op.bytesLess]
  | _ :: _, [] => by simp [Op.bytesLess]
  | [], _ :: _ => by simp [Op.bytesLess]
  | a :: x, b :: y => by
    rw [Op.bytesLess, bless_eqS x y]
    simp only [List.cons_lt_cons_iff]
    by_cases h1 : a < b <;> by_cases h2 : a = b <;> by_cases h3 : x < y <;> simp [h1, h2, h3]
theorem bbef_eqS : ∀ (x y : List UInt8), bytesBefore x y = decide (x < y)
  | [], [] => by simp [bytesBefore]
  | _ :: _, [] => by simp [bytesBefore]
  | [], _ :: _ => by simp [bytesBefore]
  | a :: x, b :: y => by
    rw [bytesBefore, bbef_eqS x y]
    simp only [List.cons_lt_cons_iff]
    by_cases h1 : a < b <;> by_cases h2 : a = b <;> by_cases h3 : x < y <;> simp [h1, h2, h3]
def nm (q : S59) : List UInt8 := q.f0.data.toList
theorem toL (b : ByteArray) : b.toList = b.data.toList := Lib.toList_data b
theorem ltP_iff (q p : S59) : ltP q p = true ↔ nm q < nm p := by unfold ltP nm; rw [bless_eqS, toL, toL]; simp
theorem neP_iff (p q : S59) : neP p q = true ↔ nm q ≠ nm p := by unfold neP nm; rw [toL, toL]; simp
theorem lt_trS {a b c : List UInt8} (h : a < b) (k : b < c) : a < c := List.lt_trans h k
theorem lt_triS (a b : List UInt8) : a < b ∨ a = b ∨ b < a := by
  rcases Classical.em (a < b) with h | h
  · exact .inl h
  · rcases Classical.em (b < a) with k | k
    · exact .inr (.inr k)
    · exact .inr (.inl (List.le_antisymm (List.not_lt.1 k) (List.not_lt.1 h)))
def SortedP (X : List S59) : Prop := X.Pairwise (fun a b => nm a < nm b)
def insF (p : S59) (X : List S59) : List S59 := X.filter (fun q => ltP q p) ++ [p] ++ X.filter (fun q => !ltP q p)
theorem while_sorted (p : S59) : ∀ X : List S59, SortedP X → X.takeWhile (fun q => ltP q p) = X.filter (fun q => ltP q p) ∧ X.dropWhile (fun q => ltP q p) = X.filter (fun q => !ltP q p)
  | [], _ => ⟨rfl, rfl⟩
  | a :: X, h => by
    have h' := List.pairwise_cons.1 h
    obtain ⟨i1, i2⟩ := while_sorted p X h'.2
    cases ha : ltP a p
    · have hn : ∀ b ∈ X, ltP b p = false := by
        intro b hb
        cases hb2 : ltP b p
        · rfl
        · have : ltP a p = true := (ltP_iff a p).2 (lt_trS (h'.1 b hb) ((ltP_iff b p).1 hb2))
          rw [ha] at this; cases this
      have e1 : X.filter (fun q => ltP q p) = [] := List.filter_eq_nil_iff.2 (fun b hb => by simp [hn b hb])
      have e2 : X.filter (fun q => !ltP q p) = X := List.filter_eq_self.2 (fun b hb => by simp [hn b hb])
      simp [List.takeWhile_cons, List.dropWhile_cons, ha, e1, e2]
    · simp [List.takeWhile_cons, List.dropWhile_cons, ha, i1, i2]
theorem insP_sorted {p : S59} {X : List S59} (h : SortedP X) : insP p X = insF p X := by
  unfold insP insF
  rw [(while_sorted p X h).1, (while_sorted p X h).2]
theorem sorted_filter {X : List S59} (h : SortedP X) (f : S59 → Bool) : SortedP (X.filter f) := List.Pairwise.filter f h
theorem insF_sorted {p : S59} {X : List S59} (h : SortedP X) (hn : ∀ q ∈ X, nm q ≠ nm p) : SortedP (insF p X) := by
  unfold insF SortedP
  rw [List.append_assoc, List.pairwise_append]
  refine ⟨sorted_filter h _, ?_, ?_⟩
  · show List.Pairwise _ (p :: _)
    rw [List.pairwise_cons]
    refine ⟨fun q hq => ?_, sorted_filter h _⟩
    obtain ⟨hq, hl⟩ := List.mem_filter.1 hq
    rcases lt_triS (nm p) (nm q) with g | g | g
    · exact g
    · exact absurd g.symm (hn q hq)
    · rw [(ltP_iff q p).2 g] at hl; cases hl
  · intro a ha b hb
    obtain ⟨ha, hl⟩ := List.mem_filter.1 ha
    have hap : nm a < nm p := (ltP_iff a p).1 hl
    rcases List.mem_append.1 hb with hb | hb
    · rw [List.mem_singleton.1 hb]; exact hap
    · obtain ⟨hb, hl2⟩ := List.mem_filter.1 hb
      rcases lt_triS (nm p) (nm b) with g | g | g
      · exact lt_trS hap g
      · rw [← g]; exact hap
      · rw [(ltP_iff b p).2 g] at hl2; cases hl2
def putP (out : List S59) (p : S59) : List S59 := insF p (out.filter (fun q => neP p q))
theorem putP_sorted {p : S59} {X : List S59} (h : SortedP X) : SortedP (putP X p) :=
  insF_sorted (sorted_filter h _) (fun q hq => (neP_iff p q).1 (List.mem_filter.1 hq).2)
theorem neP_comm (p q : S59) : neP p q = neP q p := by
  refine Bool.eq_iff_iff.2 ?_
  rw [neP_iff, neP_iff]
  exact ⟨fun h g => h g.symm, fun h g => h g.symm⟩
theorem insF_filter (p : S59) (X : List S59) (g : S59 → Bool) (hg : g p = true) : (insF p X).filter g = insF p (X.filter g) := by
  unfold insF
  simp only [List.filter_append, List.filter_filter, List.filter_cons, hg, if_true, List.filter_nil]
  congr 1
  · congr 1
    exact List.filter_congr (fun q _ => Bool.and_comm _ _)
  · exact List.filter_congr (fun q _ => Bool.and_comm _ _)
theorem filter_split (X : List S59) (p : S59) (h : SortedP X) : X.filter (fun q => ltP q p) ++ X.filter (fun q => !ltP q p) = X := by
  rw [← (while_sorted p X h).1, ← (while_sorted p X h).2]
  exact List.takeWhile_append_dropWhile
theorem put_filter (p : S59) (r out : List S59) (h : SortedP out) : (putP out p).filter (fun q => r.all (neP q)) = setStep p r (out.filter (fun q => (p :: r).all (neP q))) := by
  have he : out.filter (fun q => (p :: r).all (neP q)) = (out.filter (fun q => neP p q)).filter (fun q => r.all (neP q)) := by
    rw [List.filter_filter]
    exact List.filter_congr (fun q _ => by rw [List.all_cons, neP_comm, Bool.and_comm])
  unfold setStep
  have hs := sorted_filter (sorted_filter h (fun q => neP p q)) (fun q => r.all (neP q))
  cases hr : r.all (neP p)
  · rw [if_neg (by simp), he]
    unfold putP insF
    simp only [List.filter_append, List.filter_cons, hr, List.filter_nil]
    simp only [Bool.false_eq_true, if_false, List.append_nil]
    rw [← List.filter_append, filter_split _ p (sorted_filter h _)]
  · rw [if_pos rfl, he, insP_sorted hs]
    exact insF_filter p _ (fun q => r.all (neP q)) hr
theorem setGo_fold : ∀ (l out : List S59), SortedP out → l.foldl putP out = setGo l (out.filter (fun q => l.all (neP q)))
  | [], out, _ => by
    have : out.filter (fun q => ([] : List S59).all (neP q)) = out := List.filter_eq_self.2 (fun _ _ => rfl)
    rw [this]; rfl
  | p :: r, out, h => by
    rw [List.foldl_cons, setGo_fold r _ (putP_sorted h), put_filter p r out h]
    rfl
theorem setGo_is (l : List S59) : setGo l [] = l.foldl putP [] := by
  rw [setGo_fold l [] List.Pairwise.nil]; rfl
theorem fold_sorted : ∀ (l out : List S59), SortedP out → SortedP (l.foldl putP out)
  | [], _, h => h
  | _ :: r, _, h => fold_sorted r _ (putP_sorted h)
theorem setGo_sorted (l : List S59) : SortedP (setGo l []) := by rw [setGo_is]; exact fold_sorted l [] List.Pairwise.nil
/-- A label as an entry of a map. -/
def ent (q : S59) : Lit × DataW Unit := (.string (nm q), .lit (.string q.f1.data.toList))
def conv (p : S26) : S59 := ⟨p.f0, p.f1⟩
theorem insert_is (p : S59) : ∀ X : List S59, (∀ q ∈ X, nm q ≠ nm p) → DataW.insert (ent p) (X.map ent) = (insP p X).map ent
  | [], _ => rfl
  | a :: X, h => by
    have ih := insert_is p X (fun q hq => h q (by simp [hq]))
    show (if (Lit.string (nm p)).before (Lit.string (nm a)) = true then ent p :: ent a :: X.map ent else ent a :: DataW.insert (ent p) (X.map ent)) = _
    have e : (Lit.string (nm p)).before (Lit.string (nm a)) = decide (nm p < nm a) := bbef_eqS _ _
    rw [e]
    unfold insP
    cases ha : ltP a p
    · have hlt : nm p < nm a := by
        rcases lt_triS (nm p) (nm a) with g | g | g
        · exact g
        · exact absurd g.symm (h a (by simp))
        · rw [(ltP_iff a p).2 g] at ha; cases ha
      simp [hlt, List.takeWhile_cons, List.dropWhile_cons, ha]
    · have hlt : ¬ nm p < nm a := fun g => List.lt_irrefl _ (lt_trS g ((ltP_iff a p).1 ha))
      rw [if_neg (by simp [hlt]), ih]
      simp [insP, List.takeWhile_cons, List.dropWhile_cons, ha]
theorem put_is (p : S59) (X : List S59) (h : SortedP X) : (DataW.map (X.map ent)).put (.string (nm p)) (.lit (.string p.f1.data.toList)) = .map ((putP X p).map ent) := by
  show DataW.map (DataW.insert (ent p) ((X.map ent).filter fun e => !e.1.sameKey (.string (nm p)))) = _
  have hf : (X.map ent).filter (fun e => !e.1.sameKey (.string (nm p))) = (X.filter (fun q => neP p q)).map ent := by
    rw [List.filter_map]
    refine congrArg (List.map ent) (List.filter_congr fun q _ => ?_)
    have : neP p q = !(nm q == nm p) := by unfold neP nm; rw [toL, toL]
    rw [this]; rfl
  rw [hf, insert_is p _ (fun q hq => (neP_iff p q).1 (List.mem_filter.1 hq).2), insP_sorted (sorted_filter h _)]
  rfl
theorem mset_fold : ∀ (l : List S26) (X : List S59), SortedP X → l.foldl mput (.map (X.map ent)) = .map (((l.map conv).foldl putP X).map ent)
  | [], _, _ => rfl
  | p :: r, X, h => by
    rw [List.foldl_cons, List.map_cons, List.foldl_cons, ← mset_fold r _ (putP_sorted h)]
    congr 1
    exact put_is (conv p) X h
/-- The map that pairs make, entry by entry, is the documentation's list. -/
theorem mset_is (l : List S26) : mset l = .map ((setGo (l.map conv) []).map ent) := by
  rw [setGo_is]
  exact mset_fold l [] List.Pairwise.nil
theorem keys_is (l : List S26) : strKeys (mset l) = (setGo (l.map conv) []).map nm := by
  rw [mset_is]
  show (((setGo (l.map conv) []).map ent).map fun p => strOf p.1) = _
  rw [List.map_map]; rfl
theorem find_ent (X : List S59) (h : SortedP X) : ∀ q ∈ X, (X.map ent).find? (fun p => p.1.sameKey (.string (nm q))) = some (ent q) := by
  induction X with
  | nil => simp
  | cons a X ih =>
    have h' := List.pairwise_cons.1 h
    intro q hq
    rw [List.map_cons, List.find?_cons]
    rcases List.mem_cons.1 hq with rfl | hq
    · have : (ent q).1.sameKey (.string (nm q)) = true := by show (nm q == nm q) = true; simp
      rw [this]
    · have : (ent a).1.sameKey (.string (nm q)) = false := by
        show (nm a == nm q) = false
        refine beq_eq_false_iff_ne.2 fun e => ?_
        have := h'.1 q hq
        rw [e] at this; exact List.lt_irrefl _ this
      rw [this]
      exact ih h'.2 q hq
theorem ba_eq (b : ByteArray) : (⟨b.data.toList.toArray⟩ : ByteArray) = b := by cases b; simp
theorem val_is (l : List S26) (q : S59) (hq : q ∈ setGo (l.map conv) []) : valD (mset l) q.f0 = q.f1 := by
  have := find_ent _ (setGo_sorted (l.map conv)) q hq
  have e : (mset l).atKey (.string q.f0.data.toList) (.lit (.string [])) = .lit (.string q.f1.data.toList) := by
    rw [mset_is]
    have this' : ((setGo (l.map conv) []).map ent).find? (fun p => p.1.sameKey (.string q.f0.data.toList)) = some (ent q) := this
    simp only [DataW.atKey, this']
    rfl
  exact (valD_of e).symm
theorem size_is (l : List S26) : Maps.size (mset l) = (setGo (l.map conv) []).length := by
  rw [mset_is]; simp [Maps.size]
theorem mem_insP {p q : S59} {X : List S59} (h : q ∈ insP p X) : q = p ∨ q ∈ X := by
  unfold insP at h
  rcases List.mem_append.1 h with h | h
  · rcases List.mem_append.1 h with h | h
    · exact .inr ((List.takeWhile_sublist _).subset h)
    · exact .inl (List.mem_singleton.1 h)
  · exact .inr ((List.dropWhile_sublist _).subset h)
theorem mem_setGo : ∀ (l out : List S59) (q : S59), q ∈ setGo l out → q ∈ l ∨ q ∈ out
  | [], _, _, h => .inr h
  | p :: r, out, q, h => by
    rcases mem_setGo r _ q h with h | h
    · exact .inl (by simp [h])
    · unfold setStep at h
      split at h
      · rcases mem_insP h with h | h
        · exact .inl (by simp [h])
        · exact .inr h
      · exact .inr h
theorem insP_len (p : S59) (X : List S59) : (insP p X).length = X.length + 1 := by
  unfold insP
  have := congrArg List.length (List.takeWhile_append_dropWhile (p := fun q => ltP q p) (l := X))
  rw [List.length_append] at this
  simp only [List.length_append, List.length_cons, List.length_nil]
  omega
theorem Sset_len : ∀ (l out : List S59), (setGo l out).length ≤ l.length + out.length
  | [], out => by simp [setGo]
  | p :: r, out => by
    have := Sset_len r (setStep p r out)
    have h2 : (setStep p r out).length ≤ out.length + 1 := by
      unfold setStep
      split
      · rw [insP_len]; omega
      · omega
    simp only [setGo, List.length_cons]
    omega
end Go.Proofs.Ytikhlolhodgegaa.Q
