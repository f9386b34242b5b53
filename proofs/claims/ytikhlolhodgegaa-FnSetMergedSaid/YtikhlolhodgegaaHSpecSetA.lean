/- The labels that pairs make, after the documentation: what spec.Set returns. No condition beyond the length named. -/
import Derived.Test.YtikhlolhodgegaaHKinds
import Derived.WalkLawsBesides
import Derived.Deep.RegionLaw
set_option linter.unusedVariables false
set_option linter.unusedSimpArgs false
namespace Go.Proofs.Ytikhlolhodgegaa.Q
open Go.RowKit Go.Proofs.YtikhlolhodgegaaW.PrintWords Go.Proofs.YtikhlolhodgegaaW.PrintLast Go.Proofs.YtikhlolhodgegaaW.PrintMore
attribute [local go_sem] max2_int min2_int max_two min_two max_three min_three max_four min_four
def ltP (q p : S59) : Bool := Op.bytesLess q.f0.toList p.f0.toList
def neP (p q : S59) : Bool := !(q.f0.toList == p.f0.toList)
def insP (p : S59) (out : List S59) : List S59 := out.takeWhile (fun q => ltP q p) ++ [p] ++ out.dropWhile (fun q => ltP q p)
def setStep (p : S59) (r out : List S59) : List S59 := if r.all (neP p) = true then insP p out else out
def setGo : List S59 → List S59 → List S59
  | [], out => out
  | p :: r, out => setGo r (setStep p r out)
theorem drop_stepSP (l : List S59) (x : Int) (h0 : 0 ≤ x) (h1 : x < (l.length : Int)) : l.drop x.toNat = rd_T59 l x :: l.drop (x + 1).toNat := by
  obtain ⟨n, rfl⟩ := Int.eq_ofNat_of_zero_le h0
  have e : ((n : Int) + 1).toNat = n + 1 := by omega
  rw [e, Int.toNat_natCast, List.drop_eq_getElem_cons (by omega)]
  simp [rd_T59, List.getD_eq_getElem?_getD, List.getElem?_eq_getElem (show n < l.length by omega)]
theorem take_stepSP (l : List S59) (x : Int) (h0 : 0 ≤ x) (h1 : x < (l.length : Int)) : l.take (x + 1).toNat = l.take x.toNat ++ [rd_T59 l x] := by
  obtain ⟨n, rfl⟩ := Int.eq_ofNat_of_zero_le h0
  have e : ((n : Int) + 1).toNat = n + 1 := by omega
  rw [e, Int.toNat_natCast, List.take_succ_eq_append_getElem (by omega)]
  simp [rd_T59, List.getD_eq_getElem?_getD, List.getElem?_eq_getElem (show n < l.length by omega)]
theorem while_at (f : S59 → Bool) (l : List S59) (n : Nat) (hn : n ≤ l.length) (h1 : ∀ q ∈ l.take n, f q = true) (h2 : ∀ q r, l.drop n = q :: r → f q = false) : l.takeWhile f = l.take n ∧ l.dropWhile f = l.drop n := by
  induction l generalizing n with
  | nil => simp
  | cons a l ih =>
    cases n with
    | zero => simp [List.takeWhile_cons, List.dropWhile_cons, h2 a l rfl]
    | succ n =>
      have ha := h1 a (by simp)
      have := ih n (by simpa using hn) (fun q hq => h1 q (by simp [hq])) (fun q r h => h2 q r (by simpa using h))
      simp [List.takeWhile_cons, List.dropWhile_cons, ha, this.1, this.2]
theorem insP_at {p : S59} {out : List S59} {y : Int} (h0 : 0 ≤ y) (hy : y ≤ (out.length : Int)) (h1 : ∀ q ∈ out.take y.toNat, ltP q p = true) (h2 : y < (out.length : Int) → ltP (rd_T59 out y) p = false) : insP p out = out.take y.toNat ++ [p] ++ out.drop y.toNat := by
  obtain ⟨a, b⟩ := while_at (fun q => ltP q p) out y.toNat (by omega) h1 (fun q r h => by
    have hlt : y < (out.length : Int) := by
      rcases Int.lt_or_le y out.length with g | g
      · exact g
      · rw [List.drop_of_length_le (by omega)] at h; cases h
    rw [drop_stepSP out y h0 hlt] at h
    injection h with h3 h4
    rw [← h3]; exact h2 hlt)
  unfold insP
  rw [a, b]
theorem setStep_yes {p : S59} {r out : List S59} (h : r.all (neP p) = true) : setStep p r out = insP p out := if_pos h
theorem setStep_no {p : S59} {r out : List S59} (h : r.all (neP p) = false) : setStep p r out = out := if_neg (by simp [h])
theorem infoSP : (Try.prog.info? 59).map (fun i => (i.zero, i.size, i.bytes)) = some (some (.agg #[.string ⟨#[]⟩, .string ⟨#[]⟩]), 2, 32) := by kernel_rfl
theorem name_world {P : Program} {c : Code} {Q : Exit → Act → World → Prop} {a : Act} {w : World} (w0 : World) (h : Drawn0 w0 w) (k : ∀ W, Drawn0 w0 W → Code.wp P c Q a W) : Code.wp P c Q a w := k w h
theorem blkN0 {w : World} {o : Obj} {g : Nat} (h : g = w.heap.size) : (w.alloc o).heap[g]? = some o := by subst h; exact blk_new w o
theorem blkO0 {w : World} {o o' : Obj} {g : Nat} (h : w.heap[g]? = some o) : (w.alloc o').heap[g]? = some o := by
  have hlt : g < w.heap.size := by
    rcases Nat.lt_or_ge g w.heap.size with h1 | h1
    · exact h1
    · rw [Array.getElem?_eq_none h1] at h; cases h
  have := (below_alloc (Below.refl w.heap.size w) o').block g hlt
  rw [this, h]
theorem blkN {w : World} {o : Obj} {g : Nat} (h : g = w.heap.size) : (w.alloc o).drew.heap[g]? = some o := blkN0 h
theorem blkO {w : World} {o o' : Obj} {g : Nat} (h : w.heap[g]? = some o) : (w.alloc o').drew.heap[g]? = some o := blkO0 h
theorem R_emptySP (w : World) (base g : Nat) (hb : w.heap[g]? = some (.cells #[] 59 (0, 0))) (h : base ≤ g) : Kd.R k59 59 w base (fun _ => True) (.slice (some ⟨g, 0, none⟩) 0 0) [] :=
  ⟨fun _ _ => trivial, [], ⟨rfl, .inr ⟨g, 0, #[], rfl, h, by simpa using hb, by simp, by simp, by simp [maxLen], by simp⟩⟩, ⟨rfl, fun j p hj => by simp at hj⟩⟩
theorem C_boxSP (w : World) (g : Nat) (p : S59) (hb : w.heap[g]? = some (.cells #[.string p.f0, .string p.f1] 59 (0, 0))) : Kd.C k59 w (some ⟨g, 0, none⟩) 1 [p] :=
  ⟨rfl, by simp, fun _ => ⟨_, rfl, by
    intro j q hj
    cases j with
    | succ j => simp at hj
    | zero =>
      obtain rfl : p = q := by simpa using hj
      refine ⟨_, rfl, k59_mk _ _, ?_⟩
      intro i u hu
      have h0 := (blk_cell hb 0).trans rfl
      have h1 := (blk_cell hb 1).trans rfl
      rcases i with _ | _ | i
      · cases hu; exact h0
      · cases hu; exact h1
      · simp at hu⟩⟩
theorem MofSP {w w1 : World} {base : Nat} {ok : Nat → Prop} : ∀ x cs, k59.K w x cs → k59.M w1 base ok x cs := by
  intro x cs h
  obtain rfl := k59_open h
  exact k59_mkM _ _ _ _
end Go.Proofs.Ytikhlolhodgegaa.Q
