/- Plain words: a matcher with white space around its parts, its value in quotes or not, is read as the same. No condition beyond the sizes. -/
import Derived.Test.YtkngnoipipnioaaDoorHFormsC
set_option linter.unusedVariables false
set_option linter.unusedSimpArgs false
namespace Go.Proofs.YtkngnoipipnioaaDoor.Q
open Go.RowKit Go.Lib Go.Proofs.YtkngnoipipnioaaDoorW.PrintWords Go.Proofs.YtkngnoipipnioaaDoorW.PrintLast Go.Proofs.YtkngnoipipnioaaDoorW.PrintMore
theorem trimL_pre (g l : List UInt8) (hg : ∀ c ∈ g, blk c = true) (hl : ∀ c, l.head? = some c → blk c = false) : trimL (g ++ l) = l := by
  unfold trimL
  induction g with
  | nil =>
    cases l with
    | nil => rfl
    | cons c l => rw [List.nil_append, List.dropWhile_cons, if_neg (by rw [hl c rfl]; decide)]
  | cons c g ih => rw [List.cons_append, List.dropWhile_cons, if_pos (hg c (by simp)), ih (fun d hd => hg d (by simp [hd]))]
theorem spn_pre (p : UInt8 → Bool) (n l : List UInt8) (hn : ∀ c ∈ n, p c = true) (hl : ∀ c, l.head? = some c → p c = false) : spn p (n ++ l) = n.length := by
  induction n with
  | nil =>
    cases l with
    | nil => rfl
    | cons c l => rw [List.nil_append, spn_cons, if_neg (by rw [hl c rfl]; decide)]; rfl
  | cons c n ih => rw [List.cons_append, spn_cons, if_pos (hn c (by simp)), ih (fun d hd => hn d (by simp [hd]))]; rfl
theorem trim_mid (g w t : List UInt8) (hg : ∀ c ∈ g, blk c = true) (ht : ∀ c ∈ t, blk c = true) (hf : ∀ c, w.head? = some c → blk c = false) (hw : w ≠ []) (hl : ∀ a c, w = a ++ [c] → blk c = false) : trim (g ++ (w ++ t)) = w := by
  unfold trim
  rw [trimL_pre g (w ++ t) hg (fun c hc => by
    cases w with
    | nil => exact absurd rfl hw
    | cons d w => exact hf c (by simpa using hc)), trimR_app w t ht]
  exact trimR_fix w hl
/-- The parts of a matcher's text with white space around them. -/
theorem parts_form (g0 n g1 op g2 w g3 : List UInt8) (h0 : ∀ c ∈ g0, blk c = true) (h1 : ∀ c ∈ g1, blk c = true) (h2 : ∀ c ∈ g2, blk c = true) (h3 : ∀ c ∈ g3, blk c = true)
    (c0 : UInt8) (n' : List UInt8) (hn : n = c0 :: n') (hc0 : nmC c0 true = true) (hn' : ∀ c ∈ n', nmC c false = true) (hop : op = [61] ∨ op = [33, 61])
    (hf : ∀ c, w.head? = some c → blk c = false ∧ c ≠ 126) (hw : w ≠ []) (hl : ∀ a c, w = a ++ [c] → blk c = false) :
    partsP (g0 ++ n ++ g1 ++ op ++ g2 ++ w ++ g3) = some (n, op, w) := by
  have e : g0 ++ n ++ g1 ++ op ++ g2 ++ w ++ g3 = g0 ++ (n ++ (g1 ++ (op ++ (g2 ++ (w ++ g3))))) := by simp only [List.append_assoc]
  have hoph : ∀ c, (op ++ (g2 ++ (w ++ g3))).head? = some c → c = 61 ∨ c = 33 := fun c hc => by
    rcases hop with h | h <;> (rw [h] at hc; simp at hc; subst hc; simp)
  have hx : trimL (g0 ++ (n ++ (g1 ++ (op ++ (g2 ++ (w ++ g3)))))) = n ++ (g1 ++ (op ++ (g2 ++ (w ++ g3)))) := trimL_pre g0 _ h0 (fun c hc => by
    rw [hn] at hc
    obtain rfl : c0 = c := by simpa using hc
    exact nm_blk _ _ hc0)
  have hnm : ∀ c, (g1 ++ (op ++ (g2 ++ (w ++ g3)))).head? = some c → nmC c false = false := fun c hc => by
    cases g1 with
    | nil =>
      rcases hoph c hc with h | h <;> (rw [h]; decide)
    | cons d g1 =>
      obtain rfl : d = c := by simpa using hc
      cases hq : nmC d false
      · rfl
      · have := nm_blk d false hq
        rw [h1 d (by simp)] at this
        cases this
  have hlen : nlen nmC (n ++ (g1 ++ (op ++ (g2 ++ (w ++ g3))))) = n.length := by
    rw [hn, List.cons_append]
    simp only [nlen]
    rw [if_pos hc0, spn_pre _ n' _ hn' hnm]
    rfl
  have hy : trimL (g1 ++ (op ++ (g2 ++ (w ++ g3)))) = op ++ (g2 ++ (w ++ g3)) := trimL_pre g1 _ h1 (fun c hc => by
    rcases hoph c hc with h | h <;> (rw [h]; decide))
  have hol : opLen (op ++ (g2 ++ (w ++ g3))) = op.length := by
    unfold opLen
    rcases hop with h | h
    · have ht : ∀ c, (g2 ++ (w ++ g3)).head? = some c → c ≠ 126 := fun c hc => by
        cases g2 with
        | nil =>
          cases w with
          | nil => exact absurd rfl hw
          | cons d w =>
            obtain rfl : d = c := by simpa using hc
            exact (hf d rfl).2
        | cons d g2 =>
          obtain rfl : d = c := by simpa using hc
          intro e
          have := h2 d (by simp)
          rw [e] at this
          exact absurd this (by decide)
      rw [h]
      cases hq : g2 ++ (w ++ g3) with
      | nil => rfl
      | cons c l =>
        have := ht c (by rw [hq]; rfl)
        rw [if_neg]
        · rfl
        · intro hh
          simp at hh
          exact this hh
    · rw [h]
      have h2 : List.take 2 ([33, 61] ++ (g2 ++ (w ++ g3))) = [33, 61] := rfl
      rw [if_pos (Or.inr (Or.inl h2))]
      rfl
  have hpos : op.length ≠ 0 := by rcases hop with h | h <;> (rw [h]; decide)
  rw [e]
  unfold partsP
  simp only [hx, hlen]
  rw [List.drop_left, hy, hol, if_neg (by rw [hn]; simp), if_neg hpos, List.take_left, List.take_left, List.drop_left, trim_mid g2 w g3 h2 h3 (fun c hc => (hf c hc).1) hw hl]
theorem escP_plain : ∀ (l acc : List UInt8), (∀ c ∈ l, c ≠ 34 ∧ c ≠ 92) → escP l acc = some (acc ++ l)
  | [], acc, _ => by simp [escP]
  | c :: l, acc, h => by
    rw [escP_other c l acc (h c (by simp)).1 (h c (by simp)).2, escP_plain l _ (fun d hd => h d (by simp [hd]))]
    simp
theorem opn_plain : ∀ (l : List UInt8), (∀ c ∈ l, c ≠ 92) → opn false l = false
  | [], _ => rfl
  | c :: l, h => by
    have hc : (c == 92) = false := by simpa using h c (by simp)
    show opn (c == 92) l = false
    rw [hc]
    exact opn_plain l (fun d hd => h d (by simp [hd]))
/-- A byte of a plain value. -/
def plB (c : UInt8) : Bool := (97 ≤ c && c ≤ 122) || (65 ≤ c && c ≤ 90) || (48 ≤ c && c ≤ 57) || c == 95 || c == 58 || c == 46 || c == 45 || c == 47 || c == 32
theorem plB_facts (c : UInt8) : plB c = true → c ≠ 34 ∧ c ≠ 92 ∧ c.toNat < 128 ∧ c ≠ 126 := by
  revert c
  exact allU8 _ (by decide +kernel)
theorem kind_op (b : Bool) : opKind (opS b).data.toList = kindB b := by cases b <;> rfl
theorem clsP_forms (g0 n g1 g2 g3 v : List UInt8) (b : Bool) (h0 : ∀ c ∈ g0, blk c = true) (h1 : ∀ c ∈ g1, blk c = true) (h2 : ∀ c ∈ g2, blk c = true) (h3 : ∀ c ∈ g3, blk c = true)
    (c0 : UInt8) (n' : List UInt8) (hn : n = c0 :: n') (hc0 : nmC c0 true = true) (hn' : ∀ c ∈ n', nmC c false = true)
    (v' : List UInt8) (hv : v = 97 :: (v' ++ [122])) (hv' : ∀ c ∈ v', plB c = true) :
    clsP (g0 ++ n ++ g1 ++ (opS b).data.toList ++ g2 ++ v ++ g3) = some (kindB b, n, v) ∧ clsP (g3 ++ n ++ g2 ++ (opS b).data.toList ++ g1 ++ (34 :: (v ++ [34])) ++ g0) = some (kindB b, n, v) := by
  have hop : (opS b).data.toList = [61] ∨ (opS b).data.toList = [33, 61] := by cases b; exact Or.inl rfl; exact Or.inr rfl
  have hall : ∀ c ∈ v, plB c = true := fun c hc => by
    rw [hv] at hc
    simp only [List.mem_cons, List.mem_append, List.mem_singleton, List.not_mem_nil, or_false] at hc
    rcases hc with h | h | h
    · rw [h]; decide
    · exact hv' c h
    · rw [h]; decide
  have hesc : escP v [] = some v := by
    rw [escP_plain v [] (fun c hc => ⟨(plB_facts c (hall c hc)).1, (plB_facts c (hall c hc)).2.1⟩)]
    rfl
  have hvalid : validD v = true := valid_asc v (fun c hc => (plB_facts c (hall c hc)).2.2.1)
  have hvalid2 : validD (v ++ [34]) = true := valid_asc _ (fun c hc => by
    rcases List.mem_append.1 hc with h | h
    · exact (plB_facts c (hall c h)).2.2.1
    · rw [List.mem_singleton.1 h]; decide)
  constructor
  · have hp := parts_form g0 n g1 _ g2 v g3 h0 h1 h2 h3 c0 n' hn hc0 hn' hop (fun c hc => by rw [hv] at hc; obtain rfl : 97 = c := by simpa using hc
                                                                                             decide) (by rw [hv]; simp) (fun a c e => by
      have : v.getLast? = some c := by rw [e]; simp
      rw [hv] at this
      rw [show (97 :: (v' ++ [122])) = (97 :: v') ++ [122] from rfl, List.getLast?_append] at this
      obtain rfl : 122 = c := by simpa using this
      decide)
    unfold clsP
    rw [hp]
    have hr : rawL v = (v, false) := by unfold rawL; rw [hv]; rfl
    simp only [hr, hvalid, if_true]
    rw [valF_plain _ v [] (Nat.le_refl _), hesc, kind_op]
    rfl
  · have hp := parts_form g3 n g2 _ g1 (34 :: (v ++ [34])) g0 h3 h2 h1 h0 c0 n' hn hc0 hn' hop (fun c hc => by obtain rfl : 34 = c := by simpa using hc
                                                                                                               decide) (by simp) (fun a c e => by
      have : (34 :: (v ++ [34])).getLast? = some c := by rw [e]; simp
      rw [show (34 :: (v ++ [34])) = (34 :: v) ++ [34] from rfl, List.getLast?_append] at this
      obtain rfl : 34 = c := by simpa using this
      decide)
    unfold clsP
    rw [hp]
    have hr : rawL (34 :: (v ++ [34])) = (v ++ [34], true) := rfl
    simp only [hr, hvalid2, if_true]
    rw [valF_quoted _ v [] (Nat.le_refl _) (opn_plain v (fun c hc => (plB_facts c (hall c hc)).2.1)), hesc, kind_op]
    rfl
end Go.Proofs.YtkngnoipipnioaaDoor.Q
