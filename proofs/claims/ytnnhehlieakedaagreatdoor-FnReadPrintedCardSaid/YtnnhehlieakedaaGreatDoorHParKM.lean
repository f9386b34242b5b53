/- errors.New: a new error, never nil. No condition. Kinds of tokens among others: slices.Index and Contains of package slices at token kinds, isOneOf, isEOF; errors.New with its block. No condition but that the list is short. Plain words: a token takes at least one byte; the tokens of a text. No condition. The lexer's first state. No condition. Plain words on texts as lists of bytes, and on printed loops that come to an end. No condition. Plain words: what the parser of package parse computes: its steps, and what a quoted text stands for. No condition. -/
import Derived.Test.YtnnhehlieakedaaGreatDoorHKinds
import Derived.Test.YtnnhehlieakedaaGreatDoorHLexM
import Derived.Test.YtnnhehlieakedaaGreatDoorQ0
import Derived.Lib.TrimByte
import Derived.Lib.ValidLaws
import Derived.Lib.ValidU
import Derived.Lib.TrimUEq
set_option linter.unusedVariables false
set_option linter.unusedSimpArgs false
namespace Go.Proofs.YtnnhehlieakedaaGreatDoor.Q
open Go.RowKit Go.Proofs.YtnnhehlieakedaaGreatDoorW.PrintWords Go.Proofs.YtnnhehlieakedaaGreatDoorW.PrintLast Go.Proofs.YtnnhehlieakedaaGreatDoorW.PrintMore
attribute [local go_sem] max2_int min2_int max_two min_two max_three min_three max_four min_four
set_option maxHeartbeats 400000 in
theorem errNew_calls (s : ByteArray) (w : World) : Calls Tryz.prog 41 #[.string s] w fun e w' => ∃ g, e = .returned (.iface 116 (.pointer (some ⟨g, 0, none⟩))) ∧ Below w.heap.size w w' := by
  have hu := Tryz.underlying118
  go_enter Tryz.func41, Tryz.ntmps41
  go_wp2
  go_ret
  exact ⟨_, rfl, by repeat (first | exact Below.refl _ _ | apply below_alloc | apply below_drew | apply pw_below_drewN)⟩
end Go.Proofs.YtnnhehlieakedaaGreatDoor.Q
namespace Go.Proofs.YtnnhehlieakedaaGreatDoor.Q
open Go.RowKit Go.Lib Go.Proofs.YtnnhehlieakedaaGreatDoorW.PrintWords Go.Proofs.YtnnhehlieakedaaGreatDoorW.PrintLast Go.Proofs.YtnnhehlieakedaaGreatDoorW.PrintMore
attribute [local go_sem] max2_int min2_int max_two min_two max_three min_three max_four min_four
/-- A list of kinds in a block of its own. -/
def KsAt (w : World) (a : Nat) (ks : List Int) : Prop := ∃ t, w.heap[a]? = some (.cells (ks.map (Value.int .i64)).toArray t (0, 0))
theorem KsAt.cell {w : World} {a : Nat} {ks : List Int} (h : KsAt w a ks) (i : Nat) (hi : i < ks.length) : w.cell? ⟨a, i, none⟩ = some (.int .i64 (ks.getD i 0)) := by
  obtain ⟨t, h⟩ := h
  rw [Lib.cell_of_heap h]
  simp [hi]
theorem KsAt.below {w w' : World} {a : Nat} {ks : List Int} (h : KsAt w a ks) (hb : Below w.heap.size w w') : KsAt w' a ks := by
  obtain ⟨t, h⟩ := h
  exact ⟨t, blk_below h hb⟩
def inK (ks : List Int) (k : Int) : Bool := ks.contains k
theorem contains_upto (ks : List Int) (k : Int) (h : ∀ j, j < ks.length → ks.getD j 0 ≠ k) : ks.contains k = false := by
  cases hc : ks.contains k with
  | false => rfl
  | true =>
    obtain ⟨j, hj, e⟩ := List.getElem_of_mem (List.contains_iff_mem.1 hc)
    exact absurd (by rw [List.getD_eq_getElem?_getD, List.getElem?_eq_getElem hj]; exact e) (h j hj)
set_option maxRecDepth 100000 in
set_option maxHeartbeats 1000000 in
theorem kindIdx_calls (ks : List Int) (k : Int) (a c : Nat) (w : World) (h : KsAt w a ks) (hl : ks.length ≤ 100) :
    Calls Tryz.prog 154 #[.slice (some ⟨a, 0, none⟩) ks.length c, .int .i64 k] w fun e w' => ∃ n : Int, e = .returned (.int .i64 n) ∧ decide (n ≥ 0) = inK ks k ∧ Below w.heap.size w w' := by
  have HK := Aside0.mk h
  clear h
  have HB := Aside0.mk (Below.refl w.heap.size w)
  go_enter Tryz.func154, Tryz.ntmps154
  go_wp2
  go_loopw [8] (fun v8 wr => ∃ i : Nat, i ≤ ks.length ∧ v8 = .int .i64 i ∧ Aside0 (∀ j, j < i → ks.getD j 0 ≠ k) ∧ Aside0 (Below w.heap.size w wr)) (fun v8 _ => ((ks.length : Int) - RowKit.intOf v8).toNat)
  case atStart => exact ⟨0, by omega, rfl, ⟨fun j hj => absurd hj (by omega)⟩, HB⟩
  case round =>
    obtain ⟨i, hi, rfl, HN, HB⟩ := hrel
    by_cases hlt : i < ks.length
    · have c0 := (HK.out.below HB.out).cell i hlt
      have hq : ((i : Int) < (ks.length : Int)) = True := eq_true (by omega)
      have HM : Aside0 (inK ks (ks.getD i 0) = true) := ⟨by
        rw [List.getD_eq_getElem?_getD, List.getElem?_eq_getElem hlt]
        exact List.contains_iff_mem.2 (List.getElem_mem hlt)⟩
      have HZ : Aside0 (∀ j, j < i → ks.getD j 0 ≠ k) := HN
      obtain ⟨z, hz⟩ : ∃ z, ks.getD i 0 = z := ⟨_, rfl⟩
      rw [hz] at c0 HM
      have HZ := Aside0.mk hz
      clear hz
      by_cases he : k = z
      · have HE : Aside0 (inK ks k = true) := ⟨by rw [he]; exact HM.out⟩
        have hke : (k == z) = true := by rw [he]; exact beq_self_eq_true z
        clear he
        go_wp2
        go_ret
        exact ⟨_, rfl, by rw [HE.out]; simp, HB.out⟩
      · have hke : (k == z) = false := beq_eq_false_iff_ne.2 he
        have HN2 : Aside0 (∀ j, j < i + 1 → ks.getD j 0 ≠ k) := ⟨fun j hj => by
          rcases Nat.lt_or_ge j i with h | h
          · exact HN.out j h
          · obtain rfl : j = i := by omega
            rw [HZ.out]
            exact fun e => he e.symm⟩
        clear he
        go_wp2
        go_roundw
        case rel => exact ⟨i + 1, by omega, by simp, HN2, HB⟩
        case measure => simp [RowKit.intOf]; omega
    · have hq : ((i : Int) < (ks.length : Int)) = False := eq_false (by omega)
      have HE : Aside0 (inK ks k = false) := ⟨contains_upto ks k (fun j hj => HN.out j (by omega))⟩
      go_wp2
      go_ret
      exact ⟨_, rfl, by rw [HE.out]; rfl, HB.out⟩
theorem kindIn_calls (ks : List Int) (k : Int) (a c : Nat) (w : World) (h : KsAt w a ks) (hl : ks.length ≤ 100) :
    Calls Tryz.prog 142 #[.slice (some ⟨a, 0, none⟩) ks.length c, .int .i64 k] w fun e w' => e = .returned (.bool (inK ks k)) ∧ Below w.heap.size w w' := by
  have HK := Aside0.mk h
  clear h
  go_enter Tryz.func142, Tryz.ntmps142
  go_wp2_with fail
  refine (kindIdx_calls ks k a c _ HK.out hl).mono ?_
  rintro e w1 ⟨n, rfl, hn, hb⟩
  have HB := Aside0.mk hb
  have HN := Aside0.mk hn
  clear hb hn
  go_wp2
  go_ret
  exact ⟨by rw [← HN.out]; rfl, HB.out⟩
set_option maxRecDepth 100000 in
set_option maxHeartbeats 1000000 in
theorem isOneOf_calls (ks : List Int) (k : Int) (v : ByteArray) (x : LSt) (a c : Nat) (w : World) (h : KsAt w a ks) (hl : ks.length ≤ 100) :
    Calls Tryz.prog 114 #[tokV k v x, .slice (some ⟨a, 0, none⟩) ks.length c] w fun e w' => e = .returned (.bool (inK ks k)) ∧ Below w.heap.size w w' := by
  have HK := Aside0.mk h
  clear h
  unfold tokV
  have hu := Tryz.underlying169
  go_enter Tryz.func114, Tryz.ntmps114
  go_wp2_with fail
  refine (kindIn_calls ks k a c _ (HK.out.below (below_alloc (Below.refl _ _) _)) hl).mono ?_
  rintro e w1 ⟨rfl, hb⟩
  have HB := Aside0.mk (below_step (below_alloc (Below.refl _ _) _) hb)
  clear hb
  go_wp2
  go_ret
  exact ⟨rfl, HB.out⟩
set_option maxRecDepth 100000 in
set_option maxHeartbeats 1000000 in
theorem isEOF_calls (k : Int) (v : Value) (p0 p1 p2 p3 : Value) (w : World) :
    Calls Tryz.prog 112 #[.agg #[.int .i64 k, v, p0, p1, p2, p3]] w fun e w' => e = .returned (.bool (k == 0)) ∧ Below w.heap.size w w' := by
  have hu := Tryz.underlying169
  go_enter Tryz.func112, Tryz.ntmps112
  go_wp2
  go_ret
  exact ⟨rfl, below_alloc (Below.refl _ _) _⟩
set_option maxHeartbeats 400000 in
theorem errNew2_calls (s : ByteArray) (w : World) : Calls Tryz.prog 41 #[.string s] w fun e w' => ∃ g, e = .returned (.iface 116 (.pointer (some ⟨g, 0, none⟩))) ∧ w.heap.size ≤ g ∧ (∃ c t, w'.heap[g]? = some (.cells c t (0, 0))) ∧ Below w.heap.size w w' := by
  have hu := Tryz.underlying118
  go_enter Tryz.func41, Tryz.ntmps41
  go_wp2
  go_ret
  exact ⟨w.heap.size, rfl, Nat.le_refl _, ⟨_, _, heap_alloc_new w _⟩, below_alloc (Below.refl _ _) _⟩
end Go.Proofs.YtnnhehlieakedaaGreatDoor.Q
namespace Go.Proofs.YtnnhehlieakedaaGreatDoor.Q
open Go.RowKit Go.Lib Go.Proofs.YtnnhehlieakedaaGreatDoorW.PrintWords Go.Proofs.YtnnhehlieakedaaGreatDoorW.PrintLast Go.Proofs.YtnnhehlieakedaaGreatDoorW.PrintMore
section
variable {s : ByteArray} {x y : LSt}
theorem hasR_neg (c : ByteArray) : hasR c (-1) = false := by
  unfold hasR okR
  simp
theorem nextS_le (h : LGd s x) : x.p ≤ (nextS s x).p := by
  by_cases hr : nextR s x.p = -1
  · have := (nextR_end h).1 hr
    unfold nextS
    rw [if_neg (by omega)]
    exact Int.le_refl _
  · exact Int.le_of_lt (nextS_on h hr).1
theorem back_p (h : LGd s x) : (backS (nextS s x)).p = x.p := by rw [back_next h]
theorem acS_le (h : LGd s x) (c : ByteArray) : x.p ≤ (acS s x c).p := by
  unfold acS
  split
  · exact nextS_le h
  · rw [back_p h]; exact Int.le_refl _
theorem acS_lt (h : LGd s x) (c : ByteArray) (hb : acB s x c = true) : x.p < (acS s x c).p := by
  unfold acS
  rw [if_pos hb]
  refine (nextS_on h (fun e => ?_)).1
  unfold acB at hb
  rw [e, hasR_neg] at hb
  cases hb
theorem opF_good (h : LGd s x) : LGd s (opF s x).2 := by
  have a1 := h.ac ⟨#[33]⟩
  have a2 := a1.ac ⟨#[61]⟩
  have a3 := a2.ac ⟨#[126]⟩
  unfold opF
  repeat' split
  all_goals first | exact a3 | exact a2
theorem opF_tok (h : LGd s x) (k : Int) (hk : (opF s x).1 = some k) : x.p < (opF s x).2.p ∧ 4 ≤ k ∧ k ≤ 7 := by
  have a1 := h.ac ⟨#[33]⟩
  have a2 := a1.ac ⟨#[61]⟩
  have l1 := acS_le h ⟨#[33]⟩
  have l2 := acS_le a1 ⟨#[61]⟩
  have l3 := acS_le a2 ⟨#[126]⟩
  unfold opF at hk ⊢
  by_cases h1 : acB s x ⟨#[33]⟩ = true
  · have m1 := acS_lt h _ h1
    rw [if_pos h1] at hk ⊢
    by_cases h2 : acB s (acS s x ⟨#[33]⟩) ⟨#[61]⟩ = true
    · rw [if_pos h2] at hk ⊢
      have : k = 5 := (Option.some.inj hk).symm
      exact ⟨by show x.p < (acS s (acS s x ⟨#[33]⟩) ⟨#[61]⟩).p; omega, by omega, by omega⟩
    · rw [if_neg h2] at hk ⊢
      by_cases h3 : acB s (acS s (acS s x ⟨#[33]⟩) ⟨#[61]⟩) ⟨#[126]⟩ = true
      · rw [if_pos h3] at hk ⊢
        have : k = 7 := (Option.some.inj hk).symm
        exact ⟨by show x.p < (acS s (acS s (acS s x ⟨#[33]⟩) ⟨#[61]⟩) ⟨#[126]⟩).p; omega, by omega, by omega⟩
      · rw [if_neg h3] at hk; cases hk
  · rw [if_neg h1] at hk ⊢
    by_cases h2 : acB s (acS s x ⟨#[33]⟩) ⟨#[61]⟩ = true
    · have m2 := acS_lt a1 _ h2
      rw [if_pos h2] at hk ⊢
      by_cases h3 : acB s (acS s (acS s x ⟨#[33]⟩) ⟨#[61]⟩) ⟨#[126]⟩ = true
      · rw [if_pos h3] at hk ⊢
        have : k = 6 := (Option.some.inj hk).symm
        exact ⟨by show x.p < (acS s (acS s (acS s x ⟨#[33]⟩) ⟨#[61]⟩) ⟨#[126]⟩).p; omega, by omega, by omega⟩
      · rw [if_neg h3] at hk ⊢
        have : k = 4 := (Option.some.inj hk).symm
        exact ⟨by show x.p < (acS s (acS s (acS s x ⟨#[33]⟩) ⟨#[61]⟩) ⟨#[126]⟩).p; omega, by omega, by omega⟩
    · rw [if_neg h2] at hk; cases hk
theorem quotS_le : ∀ (k : Nat) (esc : Bool) {x : LSt}, LGd s x → x.p ≤ (quotS s k esc x).p
  | 0, _, x, _ => Int.le_refl _
  | k + 1, esc, x, h => by
    have hn := nextS_le h
    rw [quotS]
    split
    · exact hn
    · split
      · exact Int.le_trans hn (quotS_le k _ h.next)
      · split
        · exact Int.le_trans hn (quotS_le k _ h.next)
        · split
          · rw [back_p h]; exact Int.le_refl _
          · exact Int.le_trans hn (quotS_le k _ h.next)
theorem quoF_good (h : LGd s x) : LGd s (quoF s x).2 := by
  unfold quoF
  split
  · exact (LGd.quot _ _ (h.ac _)).ac _
  · exact h.ac _
theorem quoF_tok (h : LGd s x) (k : Int) (hk : (quoF s x).1 = some k) : x.p < (quoF s x).2.p ∧ k = 8 := by
  unfold quoF at hk ⊢
  by_cases h1 : acB s x ⟨#[34]⟩ = true
  · rw [if_pos h1] at hk ⊢
    have m1 := acS_lt h _ h1
    have m2 := quotS_le (s.size + 1) false (h.ac ⟨#[34]⟩)
    have m3 := acS_le (LGd.quot (s.size + 1) false (h.ac ⟨#[34]⟩)) ⟨#[34]⟩
    refine ⟨by show x.p < (acS s (quotS s (s.size + 1) false (acS s x ⟨#[34]⟩)) ⟨#[34]⟩).p; omega, ?_⟩
    simp only at hk
    split at hk
    · exact (Option.some.inj hk).symm
    · cases hk
  · rw [if_neg h1] at hk; cases hk
theorem wordS_le : ∀ (k : Nat) {x : LSt}, LGd s x → x.p ≤ (wordS s k x).p
  | 0, x, _ => Int.le_refl _
  | k + 1, x, h => by
    have hn := nextS_le h
    rw [wordS]
    split
    · exact hn
    · split
      · rw [back_p h]; exact Int.le_refl _
      · exact Int.le_trans hn (wordS_le k h.next)
theorem of_tok {o : Option Int} {k : Int} (h : Sc.of o = .tok k) : o = some k := by
  cases o with
  | none => cases h
  | some j => injection h with e; rw [e]
theorem scan1_good (h : LGd s x) (c : Sc) (hc : scan1 s x = some (c, y)) : LGd s y ∧ ∀ k, c = .tok k → x.p < y.p ∧ 1 ≤ k ∧ k ≤ 9 := by
  have hb := h.back
  have hbp := back_p h
  unfold scan1 at hc
  simp only at hc
  by_cases h1 : nextR s x.p = -1
  · rw [if_pos h1] at hc
    obtain ⟨rfl, rfl⟩ := Prod.mk.inj (Option.some.inj hc)
    exact ⟨h.next, fun k e => by cases e⟩
  have hlt := (nextS_on h h1).1
  rw [if_neg h1] at hc
  have one : ∀ k : Int, 1 ≤ k → k ≤ 9 → some (Sc.tok k, nextS s x) = some (c, y) → LGd s y ∧ ∀ k, c = .tok k → x.p < y.p ∧ 1 ≤ k ∧ k ≤ 9 := fun k k1 k2 e => by
    obtain ⟨rfl, rfl⟩ := Prod.mk.inj (Option.some.inj e)
    exact ⟨h.next, fun j e => by injection e with e; exact ⟨hlt, by omega, by omega⟩⟩
  by_cases h2 : nextR s x.p = 123
  · rw [if_pos h2] at hc; exact one 1 (by omega) (by omega) hc
  rw [if_neg h2] at hc
  by_cases h3 : nextR s x.p = 125
  · rw [if_pos h3] at hc; exact one 2 (by omega) (by omega) hc
  rw [if_neg h3] at hc
  by_cases h4 : nextR s x.p = 44
  · rw [if_pos h4] at hc; exact one 3 (by omega) (by omega) hc
  rw [if_neg h4] at hc
  by_cases h5 : nextR s x.p = 61 ∨ nextR s x.p = 33
  · rw [if_pos h5] at hc
    obtain ⟨e1, rfl⟩ := Prod.mk.inj (Option.some.inj hc)
    refine ⟨opF_good hb, fun k e => ?_⟩
    have := opF_tok hb k (of_tok (e1.trans e))
    exact ⟨by omega, by omega, by omega⟩
  rw [if_neg h5] at hc
  by_cases h6 : nextR s x.p = 34
  · rw [if_pos h6] at hc
    obtain ⟨e1, rfl⟩ := Prod.mk.inj (Option.some.inj hc)
    refine ⟨quoF_good hb, fun k e => ?_⟩
    have := quoF_tok hb k (of_tok (e1.trans e))
    exact ⟨by omega, by omega, by omega⟩
  rw [if_neg h6] at hc
  by_cases h7 : resR (nextR s x.p) = false
  · rw [if_pos h7] at hc
    obtain ⟨rfl, rfl⟩ := Prod.mk.inj (Option.some.inj hc)
    refine ⟨LGd.word _ hb, fun k e => ?_⟩
    injection e with e
    refine ⟨?_, by omega, by omega⟩
    rw [wordS, hbp, if_neg h1, if_neg (by rw [h7]; decide)]
    have m1 := (nextS_on hb (by rw [hbp]; exact h1)).1
    have m2 := wordS_le s.size hb.next
    omega
  rw [if_neg h7] at hc
  split at hc
  · cases hc
  · obtain ⟨rfl, rfl⟩ := Prod.mk.inj (Option.some.inj hc)
    exact ⟨h.next, fun k e => by cases e⟩
theorem scanF_good : ∀ (n : Nat) {x : LSt}, LGd s x → ∀ (c : Sc) (y : LSt), scanF s n x = (c, y) → LGd s y ∧ ∀ k, c = .tok k → x.p < y.p ∧ 1 ≤ k ∧ k ≤ 9
  | 0, x, h, c, y, e => by
    obtain ⟨rfl, rfl⟩ := Prod.mk.inj e
    exact ⟨h, fun k e => by cases e⟩
  | n + 1, x, h, c, y, e => by
    have e' : (match scan1 s x with | some z => z | none => scanF s n (skipS (nextS s x))) = (c, y) := e
    cases hs : scan1 s x with
    | some z =>
      rw [hs] at e'
      simp only at e'
      rw [e'] at hs
      exact scan1_good h c hs
    | none =>
      rw [hs] at e'
      have := scanF_good n h.next.skip c y e'
      have h2 := nextS_le h
      refine ⟨this.1, fun k ek => ?_⟩
      have h3 := this.2 k ek
      have h4 : (skipS (nextS s x)).p = (nextS s x).p := rfl
      exact ⟨by omega, h3.2⟩
end
end Go.Proofs.YtnnhehlieakedaaGreatDoor.Q
namespace Go.Proofs.YtnnhehlieakedaaGreatDoor.Q
open Go.RowKit Go.Lib Go.Proofs.YtnnhehlieakedaaGreatDoorW.PrintWords Go.Proofs.YtnnhehlieakedaaGreatDoorW.PrintLast Go.Proofs.YtnnhehlieakedaaGreatDoorW.PrintMore
def lx0 : LSt := ⟨0, 0, 0, 0, 0⟩
end Go.Proofs.YtnnhehlieakedaaGreatDoor.Q
namespace Go.Proofs.YtnnhehlieakedaaGreatDoor.Q
open Go.RowKit Go.Proofs.YtnnhehlieakedaaGreatDoorW.PrintWords Go.Proofs.YtnnhehlieakedaaGreatDoorW.PrintLast Go.Proofs.YtnnhehlieakedaaGreatDoorW.PrintMore
/-- From some number of rounds on. -/
def Ev {α : Type} (F : Nat → Option α) (r : α) : Prop := ∃ K, ∀ k, K ≤ k → F k = some r
theorem Ev.step {α : Type} {F G : Nat → Option α} {r : α} (h : Ev G r) (n : Nat) (e : ∀ k, F (k + n) = G k) : Ev F r := by
  obtain ⟨K, hK⟩ := h
  refine ⟨K + n, fun k hk => ?_⟩
  obtain ⟨j, rfl⟩ : ∃ j, k = j + n := ⟨k - n, by omega⟩
  rw [e]
  exact hK j (by omega)
theorem Ev.bind {α β : Type} {F : Nat → Option α} {a : α} {G : Nat → α → Option β} {r : β} (h : Ev F a) (h2 : Ev (fun k => G k a) r) : Ev (fun k => (F k).bind (G k)) r := by
  obtain ⟨K, hK⟩ := h
  obtain ⟨L, hL⟩ := h2
  refine ⟨K + L, fun k hk => ?_⟩
  show (F k).bind (G k) = _
  rw [hK k (by omega)]
  exact hL k (by omega)
theorem Ev.eq {α : Type} {F : Nat → Option α} {r s : α} (h : Ev F r) (e : r = s) : Ev F s := e ▸ h
theorem Ev.has {α : Type} {F : Nat → Option α} {r : α} (h : Ev F r) : ∃ k, F k = some r := by
  obtain ⟨K, hK⟩ := h
  exact ⟨K, hK K (Nat.le_refl _)⟩
/-- A text of these bytes. -/
def mk (l : List UInt8) : ByteArray := ⟨l.toArray⟩
theorem mk_eta (s : ByteArray) : mk s.data.toList = s := by cases s; simp [mk]
theorem mk_size (l : List UInt8) : (mk l).size = l.length := by simp [mk, ByteArray.size]
theorem mk_data (l : List UInt8) : (mk l).data.toList = l := rfl
theorem mk_extract (l : List UInt8) (a b : Nat) : (mk l).extract a b = mk ((l.drop a).take (b - a)) := Lib.extract_mk l a b
theorem mk_upto (l : List UInt8) (a : Nat) : (mk l).extract 0 a = mk (l.take a) := by rw [mk_extract]; rfl
theorem bt_mk (l : List UInt8) (i : Nat) (h : i < l.length) : bt (mk l) (i : Int) = (l[i].toNat : Int) := by
  unfold bt
  rw [dif_pos (by rw [mk_size]; simpa using h)]
  rfl
/-- Text behind text of ASCII. -/
theorem decodeN_tail (c : UInt8) (t : List UInt8) (hc : c.toNat < 128) : ∀ (l : List UInt8), l ≠ [] → Lib.decodeL (l ++ c :: t) = Lib.decodeL l := by
  intro l hl
  rw [Lib.decodeL_N, Lib.decodeL_N]
  match l, hl with
  | [a], _ =>
    simp only [List.cons_append, List.nil_append, List.length_cons, List.length_nil, List.getD_cons_zero, List.getD_cons_succ, List.getD_nil]
    unfold Lib.decodeN
    by_cases h : a.toNat < 128
    · rw [if_pos h, if_pos h]
    · rw [if_neg h, if_neg h]
      have h6 : ¬ c.toNat / 64 = 2 := by omega
      simp [h6]
  | [a, b], _ =>
    simp only [List.cons_append, List.nil_append, List.length_cons, List.length_nil, List.getD_cons_zero, List.getD_cons_succ, List.getD_nil]
    unfold Lib.decodeN
    by_cases h : a.toNat < 128
    · rw [if_pos h, if_pos h]
    · rw [if_neg h, if_neg h]
      have h6 : ¬ c.toNat / 64 = 2 := by omega
      simp [h6]
  | [a, b, d], _ =>
    simp only [List.cons_append, List.nil_append, List.length_cons, List.length_nil, List.getD_cons_zero, List.getD_cons_succ, List.getD_nil]
    unfold Lib.decodeN
    by_cases h : a.toNat < 128
    · rw [if_pos h, if_pos h]
    · rw [if_neg h, if_neg h]
      have h6 : ¬ c.toNat / 64 = 2 := by omega
      simp [h6]
  | a :: b :: d :: e :: l, _ =>
    simp only [List.cons_append, List.nil_append, List.length_cons, List.length_append, List.getD_cons_zero, List.getD_cons_succ]
    unfold Lib.decodeN
    have h1 : 1 < l.length + (t.length + 1) + 1 + 1 + 1 + 1 := by omega
    have h2 : 2 < l.length + (t.length + 1) + 1 + 1 + 1 + 1 := by omega
    have h3 : 3 < l.length + (t.length + 1) + 1 + 1 + 1 + 1 := by omega
    have g1 : 1 < l.length + 1 + 1 + 1 + 1 := by omega
    have g2 : 2 < l.length + 1 + 1 + 1 + 1 := by omega
    have g3 : 3 < l.length + 1 + 1 + 1 + 1 := by omega
    simp only [h1, h2, h3, g1, g2, g3, true_and]
theorem decode_fits0 (s : ByteArray) (pos : Nat) (h : pos < s.size) : pos + (Utf8.decode s pos).2 ≤ s.size := by
  unfold Utf8.decode
  dsimp only
  (repeat' split) <;> simp_all <;> omega
theorem decodeL_fits (l : List UInt8) (h : l ≠ []) : (Lib.decodeL l).2 ≤ l.length := by
  have := decode_fits0 (mk l) 0 (by rw [mk_size]; exact List.length_pos_iff.2 h)
  rw [← Lib.decodeL_drop, mk_data, List.drop_zero, mk_size] at this
  omega
end Go.Proofs.YtnnhehlieakedaaGreatDoor.Q
namespace Go.Proofs.YtnnhehlieakedaaGreatDoor.Q
open Go.RowKit Go.Lib Go.Proofs.YtnnhehlieakedaaGreatDoorW.PrintWords Go.Proofs.YtnnhehlieakedaaGreatDoorW.PrintLast Go.Proofs.YtnnhehlieakedaaGreatDoorW.PrintMore
/-- A hexadecimal digit. -/
def hexV (c : UInt8) : Option Nat := if 48 ≤ c.toNat ∧ c.toNat ≤ 57 then some (c.toNat - 48) else if 97 ≤ c.toNat ∧ c.toNat ≤ 102 then some (c.toNat - 87) else if 65 ≤ c.toNat ∧ c.toNat ≤ 70 then some (c.toNat - 55) else none
/-- The number that n hexadecimal digits are. -/
def hexNat : Nat → List UInt8 → Nat → Option Nat
  | 0, _, v => some v
  | _ + 1, [], _ => none
  | n + 1, c :: l, v => match hexV c with
    | none => none
    | some x => hexNat n l (v * 16 + x)
/-- An octal digit, and the number that n of them behind a number are. -/
def octV (c : UInt8) : Option Nat := if 48 ≤ c.toNat ∧ c.toNat ≤ 55 then some (c.toNat - 48) else none
def octNat : Nat → List UInt8 → Nat → Option Nat
  | 0, _, v => some v
  | _ + 1, [], _ => none
  | n + 1, c :: l, v => match octV c with
    | none => none
    | some x => octNat n l (v * 8 + x)
def okRune (v : Nat) : Bool := decide (v < 55296 ∨ (57344 ≤ v ∧ v ≤ 1114111))
/-- One escaped part behind a backslash: its value, is it a character of more bytes, and the rest. -/
def escC (c : UInt8) (t : List UInt8) : Option (Nat × Bool × List UInt8) :=
  if c = 97 then some (7, false, t)
  else if c = 98 then some (8, false, t)
  else if c = 102 then some (12, false, t)
  else if c = 110 then some (10, false, t)
  else if c = 114 then some (13, false, t)
  else if c = 116 then some (9, false, t)
  else if c = 118 then some (11, false, t)
  else if c = 120 then (hexNat 2 t 0).map fun v => (v, false, t.drop 2)
  else if c = 117 then match hexNat 4 t 0 with
    | none => none
    | some v => if okRune v then some (v, true, t.drop 4) else none
  else if c = 85 then match hexNat 8 t 0 with
    | none => none
    | some v => if okRune v then some (v, true, t.drop 8) else none
  else if 48 ≤ c.toNat ∧ c.toNat ≤ 55 then match octNat 2 t (c.toNat - 48) with
    | none => none
    | some v => if v ≤ 255 then some (v, false, t.drop 2) else none
  else if c = 92 then some (92, false, t)
  else if c = 34 then some (34, false, t)
  else none
/-- One character or escape of a text in double quotes. -/
def uqC (l : List UInt8) : Option (Nat × Bool × List UInt8) := match l with
  | [] => none
  | c :: t => if c = 34 then none
    else if 128 ≤ c.toNat then some ((Lib.decodeL (c :: t)).1, true, (c :: t).drop (Lib.decodeL (c :: t)).2)
    else if c ≠ 92 then some (c.toNat, false, t)
    else match t with
      | [] => none
      | d :: t' => escC d t'
/-- What the characters up to the closing quote stand for, and the rest. -/
def unqL : Nat → List UInt8 → List UInt8 → Option (List UInt8 × List UInt8)
  | 0, _, _ => none
  | k + 1, l, acc => if l = [] then none else if l.head? = some 34 then some (acc, l.drop 1) else match uqC l with
    | none => none
    | some (r, mb, rest) => if l.head? = some 10 then none else unqL k rest (acc ++ if r < 128 ∨ mb = false then [UInt8.ofNat r] else Lib.encodeRune (r : Int))
def unq1 (l : List UInt8) : Option (List UInt8 × List UInt8) :=
  if (l.drop 1).contains 34 then
    let e := (l.drop 1).idxOf 34
    if (92 ∉ (l.drop 1).take e ∧ 10 ∉ (l.drop 1).take e) ∧ Lib.validD ((l.drop 1).take e) = true then some ((l.drop 1).take e, l.drop (e + 2)) else unqL l.length (l.drop 1) []
  else none
/-- What a text in double quotes stands for. -/
def unqF (s : ByteArray) : Option ByteArray := match unq1 s.data.toList with
  | none => none
  | some (out, rem) => if rem = [] then some (mk out) else none
def unqT (k : Int) (v : ByteArray) : Option ByteArray := if k = 8 then (match unqF v with
    | none => none
    | some o => if Lib.validD o.data.toList = true then some o else none) else some v
/-- The parser's states. -/
inductive Pn | ob | cb | ma | en | co | eo
structure PSt where
  ms : List S25
  hob : Bool
  x : LSt
def pkT (s : ByteArray) (x : LSt) : Sc × LSt := scanF s (s.size + 1) x
def tokS (s : ByteArray) (y : LSt) : ByteArray := s.extract y.st.toNat y.p.toNat
/-- One step of the parser; none: the text is none. -/
def stepP (s : ByteArray) (fn : Pn) (q : PSt) : Option (Option Pn × PSt) := match fn with
  | .ob => match pkT s q.x with
    | (.eof, _) => some (some .eo, { q with hob := false })
    | (.bad, _) => none
    | (.tok k, y) =>
      let q1 : PSt := if k = 1 then { q with hob := true, x := emitS y } else { q with hob := false }
      match pkT s q1.x with
      | (.eof, _) => some (some .cb, q1)
      | (.bad, _) => none
      | (.tok j, _) => if j = 2 then some (some .cb, q1) else some (some .ma, q1)
  | .cb => match pkT s q.x with
    | (.eof, _) => if q.hob then none else some (some .eo, q)
    | (.bad, _) => none
    | (.tok k, y) => if k = 2 then (if q.hob then some (some .eo, { q with x := emitS y }) else none) else (if q.hob then none else some (some .eo, q))
  | .ma => match pkT s q.x with
    | (.tok k, y) => if k = 8 ∨ k = 9 then match unqT k (tokS s y) with
      | none => none
      | some n => match pkT s (emitS y) with
        | (.tok o, y2) => if 4 ≤ o ∧ o ≤ 7 then match pkT s (emitS y2) with
          | (.tok j, y3) => if j = 8 ∨ j = 9 then match unqT j (tokS s y3) with
            | none => none
            | some v => some (some .en, { q with ms := q.ms ++ [⟨o - 4, n, v⟩], x := emitS y3 })
            else none
          | _ => none
          else none
        | _ => none
      else none
    | _ => none
  | .en => match pkT s q.x with
    | (.eof, _) => some (some .cb, q)
    | (.bad, _) => none
    | (.tok k, _) => if k = 3 then some (some .co, q) else if k = 2 then some (some .cb, q) else none
  | .co => match pkT s q.x with
    | (.tok k, y) => if k = 3 then match pkT s (emitS y) with
      | (.eof, _) => some (some .cb, { q with x := emitS y })
      | (.bad, _) => none
      | (.tok j, _) => if j = 2 then some (some .cb, { q with x := emitS y }) else if j = 8 ∨ j = 9 then some (some .ma, { q with x := emitS y }) else none
      else none
    | _ => none
  | .eo => match pkT s q.x with
    | (.eof, y) => some (none, { q with x := y })
    | _ => none
def runP (s : ByteArray) : Nat → Pn → PSt → Option (List S25)
  | 0, _, _ => none
  | k + 1, fn, q => match stepP s fn q with
    | none => none
    | some (none, q') => some q'.ms
    | some (some f, q') => runP s k f q'
/-- The matchers that a text is. -/
def parF (s : ByteArray) : Option (List S25) := runP s (4 * s.size + 8) .ob ⟨[], false, lx0⟩
def Pn.rank : Pn → Nat
  | .eo => 0
  | .cb => 1
  | .ma => 2
  | .co => 2
  | .en => 3
  | .ob => 3
def measP (s : ByteArray) (fn : Pn) (q : PSt) : Nat := 4 * (s.size - q.x.p.toNat) + fn.rank
end Go.Proofs.YtnnhehlieakedaaGreatDoor.Q
