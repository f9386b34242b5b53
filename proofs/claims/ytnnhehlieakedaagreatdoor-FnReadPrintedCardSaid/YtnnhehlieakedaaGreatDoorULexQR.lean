/- Plain words: the text of a token, alone, is that token. No condition. Plain words: a token's text, alone, is scanned as that token, and nothing behind it. No condition. -/
import Derived.Test.YtnnhehlieakedaaGreatDoorHParKM
import Derived.Lib.TrimUEq
namespace Go.Proofs.YtnnhehlieakedaaGreatDoor.Q
open Go.RowKit Go.Lib Go.Proofs.YtnnhehlieakedaaGreatDoorW.PrintWords Go.Proofs.YtnnhehlieakedaaGreatDoorW.PrintLast Go.Proofs.YtnnhehlieakedaaGreatDoorW.PrintMore
theorem decodeN_cut (n n' b0 b1 b2 b3 c1 c2 c3 : Nat) (hn : 1 ≤ n') (hnn : n' ≤ n) (hw : (decodeN n b0 b1 b2 b3).2 ≤ n') (h1 : 1 < n' → c1 = b1) (h2 : 2 < n' → c2 = b2) (h3 : 3 < n' → c3 = b3) : decodeN n' b0 c1 c2 c3 = decodeN n b0 b1 b2 b3 := by
  unfold decodeN at hw ⊢
  by_cases a0 : b0 < 128
  · rw [if_pos a0, if_pos a0]
  rw [if_neg a0] at hw ⊢
  rw [if_neg a0]
  by_cases k1 : 1 < n'
  · have g1 : 1 < n := by omega
    have e1 := h1 k1
    subst e1
    by_cases k2 : 2 < n'
    · have g2 : 2 < n := by omega
      have e2 := h2 k2
      subst e2
      by_cases k3 : 3 < n'
      · have g3 : 3 < n := by omega
        have e3 := h3 k3
        subst e3
        simp only [k1, k2, k3, g1, g2, g3, true_and]
      · simp only [k1, k2, k3, g1, g2, true_and, false_and, and_false, if_false]
        simp only [g1, g2, true_and] at hw
        by_cases q1 : b0 / 32 = 6 ∧ c1 / 64 = 2
        · simp only [if_pos q1]
        · simp only [if_neg q1] at hw ⊢
          by_cases q2 : b0 / 16 = 14 ∧ c1 / 64 = 2 ∧ c2 / 64 = 2
          · simp only [if_pos q2]
          · simp only [if_neg q2] at hw ⊢
            split
            · split
              · rename_i z1 z2; rw [if_pos z1, if_pos z2] at hw; simp at hw; omega
              · rfl
            · rfl
    · simp only [k1, k2, g1, true_and, false_and, and_false, if_false]
      simp only [g1, true_and] at hw
      by_cases q1 : b0 / 32 = 6 ∧ c1 / 64 = 2
      · simp only [if_pos q1]
      · simp only [if_neg q1] at hw ⊢
        repeat' split at hw
        all_goals first | (exfalso; simp at hw; omega) | (repeat' split) <;> first | rfl | (exfalso; omega) | contradiction
  · simp only [k1, false_and, and_false, if_false]
    repeat' split at hw
    all_goals first | (exfalso; simp at hw; omega) | (repeat' split) <;> first | rfl | (exfalso; omega) | contradiction
/-- A character of a text, in a part of the text that holds it whole. -/
theorem decode_part (s : ByteArray) (a b q : Nat) (hb : b ≤ s.size) (hq : a + q < b) (hw : a + q + (Utf8.decode s (a + q)).2 ≤ b) : Utf8.decode (s.extract a b) q = Utf8.decode s (a + q) := by
  have hl : (s.extract a b).data.toList = (s.data.toList.drop a).take (b - a) := by
    rw [ByteArray.data_extract, Array.toList_extract]
    try simp only [List.extract_eq_take_drop]
  have hlen : (s.extract a b).data.toList.length = b - a := by
    rw [hl, List.length_take, List.length_drop, Array.length_toList]
    have : s.data.size = s.size := rfl
    omega
  have hg : ∀ i, i < b - a → (s.extract a b).data.toList.getD i 0 = s.data.toList.getD (a + i) 0 := fun i hi => by
    rw [hl, getD_takeU _ _ _ hi, getD_dropU]
  rw [decode_N] at hw
  rw [decode_N, decode_N, hlen, hg q (by omega)]
  have hs : s.data.toList.length = s.size := Array.length_toList
  refine decodeN_cut _ _ _ _ _ _ _ _ _ (by omega) (by omega) (by omega) (fun h => ?_) (fun h => ?_) (fun h => ?_)
  · rw [hg _ (by omega)]; rfl
  · rw [hg _ (by omega)]; rfl
  · rw [hg _ (by omega)]; rfl
section
variable {s : ByteArray} {a b : Nat} {x x' : LSt}
/-- A state within a part of the text, and the state of the whole text. -/
structure Sim (s : ByteArray) (a b : Nat) (x x' : LSt) : Prop where
  p : x.p = (a : Int) + x'.p
  g : LGd s x
  g' : LGd (s.extract a b) x'
theorem part_size (hb : b ≤ s.size) : (s.extract a b).size = b - a := by rw [ByteArray.size_extract]; omega
theorem Sim.step (h : Sim s a b x x') (hb : b ≤ s.size) (hp : x.p < b) (hn : (nextS s x).p ≤ b) : nextR (s.extract a b) x'.p = nextR s x.p ∧ Sim s a b (nextS s x) (nextS (s.extract a b) x') := by
  have h1 := h.g.s0; have h2 := h.g.s1; have h3 := h.g'.s0; have h4 := h.g'.s1
  have hz := part_size (s := s) (a := a) hb
  have e := h.p
  obtain ⟨q, hq⟩ : ∃ q : Nat, x'.p = q := ⟨x'.p.toNat, by omega⟩
  have ex : x.p.toNat = a + q := by omega
  have hps : x.p.toNat < s.size := by omega
  have hqs : x'.p.toNat < (s.extract a b).size := by omega
  have hw : a + q + (Utf8.decode s (a + q)).2 ≤ b := by
    unfold nextS at hn
    rw [if_pos hps] at hn
    simp only at hn
    rw [ex] at hn
    omega
  have hd := decode_part s a b q hb (by omega) hw
  have eq' : x'.p.toNat = q := by omega
  refine ⟨?_, ?_, h.g.next, h.g'.next⟩
  · unfold nextR
    rw [if_pos hps, if_pos hqs, eq', hd, ex]
  · unfold nextS
    rw [if_pos hps, if_pos hqs]
    simp only
    rw [eq', hd, ex]
    omega
/-- Start and first column stay. -/
def Same (x y : LSt) : Prop := y.st = x.st ∧ y.cl = x.cl
theorem same_next (s : ByteArray) (x : LSt) : Same x (nextS s x) := by unfold nextS; split <;> exact ⟨rfl, rfl⟩
theorem same_back (x : LSt) : Same x (backS x) := ⟨rfl, rfl⟩
theorem Same.trans {x y z : LSt} (h : Same x y) (k : Same y z) : Same x z := ⟨k.1.trans h.1, k.2.trans h.2⟩
theorem same_ac (s : ByteArray) (x : LSt) (c : ByteArray) : Same x (acS s x c) := by
  unfold acS
  split
  · exact same_next s x
  · exact (same_next s x).trans (same_back _)
theorem same_word (s : ByteArray) : ∀ (k : Nat) (x : LSt), Same x (wordS s k x)
  | 0, x => ⟨rfl, rfl⟩
  | k + 1, x => by
    rw [wordS]
    split
    · exact same_next s x
    · split
      · exact (same_next s x).trans (same_back _)
      · exact (same_next s x).trans (same_word s k _)
theorem same_quot (s : ByteArray) : ∀ (k : Nat) (esc : Bool) (x : LSt), Same x (quotS s k esc x)
  | 0, _, x => ⟨rfl, rfl⟩
  | k + 1, esc, x => by
    rw [quotS]
    split
    · exact same_next s x
    · split
      · exact (same_next s x).trans (same_quot s k _ _)
      · split
        · exact (same_next s x).trans (same_quot s k _ _)
        · split
          · exact (same_next s x).trans (same_back _)
          · exact (same_next s x).trans (same_quot s k _ _)
end
end Go.Proofs.YtnnhehlieakedaaGreatDoor.Q
namespace Go.Proofs.YtnnhehlieakedaaGreatDoor.Q
open Go.RowKit Go.Lib Go.Proofs.YtnnhehlieakedaaGreatDoorW.PrintWords Go.Proofs.YtnnhehlieakedaaGreatDoorW.PrintLast Go.Proofs.YtnnhehlieakedaaGreatDoorW.PrintMore
section
variable {s : ByteArray} {a b : Nat} {x x' y z : LSt}
theorem acS_true {c : ByteArray} (h : acB s x c = true) : acS s x c = nextS s x := by unfold acS; rw [if_pos h]
theorem acS_false {c : ByteArray} (h : acB s x c = false) : acS s x c = backS (nextS s x) := by unfold acS; rw [h, if_neg (by decide)]
theorem same_op : Same x (opF s x).2 := by
  have a1 := same_ac s x ⟨#[33]⟩
  have a2 := a1.trans (same_ac s (acS s x ⟨#[33]⟩) ⟨#[61]⟩)
  have a3 := a2.trans (same_ac s (acS s (acS s x ⟨#[33]⟩) ⟨#[61]⟩) ⟨#[126]⟩)
  unfold opF
  repeat' split
  all_goals first | exact a3 | exact a2
theorem same_quo : Same x (quoF s x).2 := by
  have a1 := same_ac s x ⟨#[34]⟩
  unfold quoF
  split
  · exact (a1.trans (same_quot s _ _ _)).trans (same_ac s _ _)
  · exact a1
theorem scan_to (k : Int) : ∀ (n : Nat) (x : LSt), LGd s x → x.st = x.p → scanF s n x = (.tok k, y) → ∃ x1, LGd s x1 ∧ x1.st = x1.p ∧ scan1 s x1 = some (.tok k, y)
  | 0, x, _, _, e => by cases (Prod.mk.inj e).1
  | n + 1, x, h, hst, e => by
    have e' : (match scan1 s x with | some z => z | none => scanF s n (skipS (nextS s x))) = (.tok k, y) := e
    cases hs : scan1 s x with
    | some z =>
      rw [hs] at e'
      simp only at e'
      rw [e'] at hs
      exact ⟨x, h, hst, hs⟩
    | none =>
      rw [hs] at e'
      exact scan_to k n _ h.next.skip rfl e'
theorem scan1_same (k : Int) (hc : scan1 s x = some (.tok k, y)) : Same x y := by
  unfold scan1 at hc
  simp only at hc
  have sb : Same x (backS (nextS s x)) := (same_next s x).trans (same_back _)
  repeat' split at hc
  all_goals first
    | (obtain ⟨_, e⟩ := Prod.mk.inj (Option.some.inj hc); rw [← e]; first | exact same_next s x | exact sb.trans same_op | exact sb.trans same_quo | exact sb.trans (same_word s _ _))
    | (cases hc)
end
end Go.Proofs.YtnnhehlieakedaaGreatDoor.Q
