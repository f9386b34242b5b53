/- Plain words on texts as lists of bytes, and on printed loops that come to an end. No condition. -/
import Derived.Test.YtkngnoipipnioaaDoorQ0
import Derived.Lib.TrimByte
import Derived.Lib.ValidLaws
import Derived.Lib.ValidU
import Derived.Lib.TrimUEq
set_option linter.unusedVariables false
set_option linter.unusedSimpArgs false
namespace Go.Proofs.YtkngnoipipnioaaDoor.Q
open Go.RowKit Go.Proofs.YtkngnoipipnioaaDoorW.PrintWords Go.Proofs.YtkngnoipipnioaaDoorW.PrintLast Go.Proofs.YtkngnoipipnioaaDoorW.PrintMore
/-- From some number of rounds on. -/
def Ev {α : Type} (F : Nat → Option α) (r : α) : Prop := ∃ K, ∀ k, K ≤ k → F k = some r
theorem Ev.step {α : Type} {F G : Nat → Option α} {r : α} (h : Ev G r) (n : Nat) (e : ∀ k, F (k + n) = G k) : Ev F r := by
  obtain ⟨K, hK⟩ := h
  refine ⟨K + n, fun k hk => ?_⟩
  obtain ⟨j, rfl⟩ : ∃ j, k = j + n := ⟨k - n, by omega⟩
  rw [e]
  exact hK j (by omega)
theorem Ev.now {α : Type} {F : Nat → Option α} {r : α} (n : Nat) (e : ∀ k, F (k + n) = some r) : Ev F r :=
  ⟨n, fun k hk => by obtain ⟨j, rfl⟩ : ∃ j, k = j + n := ⟨k - n, by omega⟩; exact e j⟩
theorem Ev.const {α : Type} (r : α) : Ev (fun _ => some r) r := ⟨0, fun _ _ => rfl⟩
theorem Ev.bind {α β : Type} {F : Nat → Option α} {a : α} {G : Nat → α → Option β} {r : β} (h : Ev F a) (h2 : Ev (fun k => G k a) r) : Ev (fun k => (F k).bind (G k)) r := by
  obtain ⟨K, hK⟩ := h
  obtain ⟨L, hL⟩ := h2
  refine ⟨K + L, fun k hk => ?_⟩
  show (F k).bind (G k) = _
  rw [hK k (by omega)]
  exact hL k (by omega)
theorem Ev.bindc {α β : Type} {o : Option α} {a : α} {G : Nat → α → Option β} {r : β} (h : o = some a) (h2 : Ev (fun k => G k a) r) : Ev (fun k => o.bind (G k)) r := by
  subst h
  exact h2
theorem Ev.iteT {α : Type} {c : Prop} [Decidable c] {F G : Nat → Option α} {r : α} (h : c) (h2 : Ev F r) : Ev (fun k => if c then F k else G k) r := by
  obtain ⟨K, hK⟩ := h2
  exact ⟨K, fun k hk => by show (if c then F k else G k) = _; rw [if_pos h]; exact hK k hk⟩
theorem Ev.iteF {α : Type} {c : Prop} [Decidable c] {F G : Nat → Option α} {r : α} (h : ¬ c) (h2 : Ev G r) : Ev (fun k => if c then F k else G k) r := by
  obtain ⟨K, hK⟩ := h2
  exact ⟨K, fun k hk => by show (if c then F k else G k) = _; rw [if_neg h]; exact hK k hk⟩
theorem Ev.eq {α : Type} {F : Nat → Option α} {r s : α} (h : Ev F r) (e : r = s) : Ev F s := e ▸ h
theorem Ev.has {α : Type} {F : Nat → Option α} {r : α} (h : Ev F r) : ∃ k, F k = some r := by
  obtain ⟨K, hK⟩ := h
  exact ⟨K, hK K (Nat.le_refl _)⟩
/-- A text of these bytes. -/
def mk (l : List UInt8) : ByteArray := ⟨l.toArray⟩
theorem mk_eta (s : ByteArray) : mk s.data.toList = s := by cases s; simp [mk]
theorem mk_size (l : List UInt8) : (mk l).size = l.length := by simp [mk, ByteArray.size]
theorem mk_list (l : List UInt8) : (mk l).toList = l := by simp [mk, ByteArray.toList_eq]
theorem mk_data (l : List UInt8) : (mk l).data.toList = l := rfl
theorem mk_inj {l m : List UInt8} (h : mk l = mk m) : l = m := by have := congrArg (fun s : ByteArray => s.data.toList) h; exact this
theorem mk_extract (l : List UInt8) (a b : Nat) : (mk l).extract a b = mk ((l.drop a).take (b - a)) := Lib.extract_mk l a b
theorem mk_from (l : List UInt8) (a : Nat) : (mk l).extract a (mk l).size = mk (l.drop a) := by
  rw [mk_extract, mk_size, List.take_of_length_le (by rw [List.length_drop]; exact Nat.le_refl _)]
theorem mk_upto (l : List UInt8) (a : Nat) : (mk l).extract 0 a = mk (l.take a) := by rw [mk_extract]; rfl
theorem mk_append (l m : List UInt8) : mk l ++ mk m = mk (l ++ m) := by
  apply ByteArray.ext
  simp [mk]
theorem bt_mk (l : List UInt8) (i : Nat) (h : i < l.length) : bt (mk l) (i : Int) = (l[i].toNat : Int) := by
  unfold bt
  rw [dif_pos (by rw [mk_size]; simpa using h)]
  rfl
theorem bt_mk0 (c : UInt8) (l : List UInt8) : bt (mk (c :: l)) 0 = (c.toNat : Int) := bt_mk (c :: l) 0 (by simp)
theorem bt_app (a : List UInt8) (c : UInt8) (l : List UInt8) (i : Nat) (h : i = a.length) : bt (mk (a ++ c :: l)) (i : Int) = (c.toNat : Int) := by
  rw [bt_mk _ _ (by rw [List.length_append, List.length_cons]; omega)]
  congr 2
  rw [List.getElem_append_right (by omega)]
  simp [h]
theorem w64n (n : Nat) (h : n < 9223372036854775808) : wrap64 (n : Int) = (n : Int) := by unfold wrap64; omega
theorem w64s (n : Nat) (h : n + 1 < 9223372036854775808) : wrap64 ((n : Int) + 1) = ((n + 1 : Nat) : Int) := by unfold wrap64; omega
theorem w64p (n : Nat) (h : n < 9223372036854775808) (h1 : 1 ≤ n) : wrap64 ((n : Int) - 1) = ((n - 1 : Nat) : Int) := by unfold wrap64; omega
theorem w64i (x : Int) (h : -9223372036854775808 ≤ x) (h2 : x ≤ 9223372036854775807) : wrap64 x = x := by unfold wrap64; omega
/-- Text behind text of ASCII. -/
theorem decodeN_tail (c : UInt8) (t : List UInt8) (hc : c.toNat < 128) : ∀ (l : List UInt8), l ≠ [] → Lib.decodeL (l ++ c :: t) = Lib.decodeL l := by
  intro l hl
  rw [Lib.decodeL_N, Lib.decodeL_N]
  match l, hl with
  | [a], _ =>
    simp only [List.cons_append, List.nil_append, List.length_cons, List.length_nil, List.getD_cons_zero, List.getD_cons_succ, List.getD_nil]
    unfold Lib.decodeN
    by_cases h : a.toNat < 128
    · rw [if_pos h, if_pos h]
    · rw [if_neg h, if_neg h]
      have h6 : ¬ c.toNat / 64 = 2 := by omega
      simp [h6]
  | [a, b], _ =>
    simp only [List.cons_append, List.nil_append, List.length_cons, List.length_nil, List.getD_cons_zero, List.getD_cons_succ, List.getD_nil]
    unfold Lib.decodeN
    by_cases h : a.toNat < 128
    · rw [if_pos h, if_pos h]
    · rw [if_neg h, if_neg h]
      have h6 : ¬ c.toNat / 64 = 2 := by omega
      simp [h6]
  | [a, b, d], _ =>
    simp only [List.cons_append, List.nil_append, List.length_cons, List.length_nil, List.getD_cons_zero, List.getD_cons_succ, List.getD_nil]
    unfold Lib.decodeN
    by_cases h : a.toNat < 128
    · rw [if_pos h, if_pos h]
    · rw [if_neg h, if_neg h]
      have h6 : ¬ c.toNat / 64 = 2 := by omega
      simp [h6]
  | a :: b :: d :: e :: l, _ =>
    simp only [List.cons_append, List.nil_append, List.length_cons, List.length_append, List.getD_cons_zero, List.getD_cons_succ]
    unfold Lib.decodeN
    have h1 : 1 < l.length + (t.length + 1) + 1 + 1 + 1 + 1 := by omega
    have h2 : 2 < l.length + (t.length + 1) + 1 + 1 + 1 + 1 := by omega
    have h3 : 3 < l.length + (t.length + 1) + 1 + 1 + 1 + 1 := by omega
    have g1 : 1 < l.length + 1 + 1 + 1 + 1 := by omega
    have g2 : 2 < l.length + 1 + 1 + 1 + 1 := by omega
    have g3 : 3 < l.length + 1 + 1 + 1 + 1 := by omega
    simp only [h1, h2, h3, g1, g2, g3, true_and]
theorem decode_fits0 (s : ByteArray) (pos : Nat) (h : pos < s.size) : pos + (Utf8.decode s pos).2 ≤ s.size := by
  unfold Utf8.decode
  dsimp only
  (repeat' split) <;> simp_all <;> omega
theorem decodeL_fits (l : List UInt8) (h : l ≠ []) : (Lib.decodeL l).2 ≤ l.length := by
  have := decode_fits0 (mk l) 0 (by rw [mk_size]; exact List.length_pos_iff.2 h)
  rw [← Lib.decodeL_drop, mk_data, List.drop_zero, mk_size] at this
  omega
theorem valid_tail (c : UInt8) (t : List UInt8) (hc : c.toNat < 128) (ht : Lib.validD t = true) : ∀ (n : Nat) (l : List UInt8), l.length ≤ n → Lib.validD (l ++ c :: t) = Lib.validD l
  | n, [], _ => by rw [List.nil_append, Lib.validD_cons _ _ hc, ht]; rfl
  | 0, _ :: _, h => absurd h (by simp)
  | n + 1, a :: l, h => by
    have hw := Lib.decodeL_width (a :: l)
    have hf := decodeL_fits (a :: l) (by simp)
    rw [Lib.validD_step ((a :: l) ++ c :: t) (by simp), Lib.validD_step (a :: l) (by simp), decodeN_tail c t hc _ (by simp), List.drop_append_of_le_length hf]
    rw [valid_tail c t hc ht n _ (by rw [List.length_drop]; simp only [List.length_cons] at h ⊢; omega)]
theorem valid_asc (t : List UInt8) (h : ∀ c ∈ t, c.toNat < 128) : Lib.validD t = true := by
  induction t with
  | nil => rfl
  | cons c t ih => rw [Lib.validD_cons _ _ (h c (by simp)), ih (fun d hd => h d (by simp [hd]))]
theorem valid_ends (a l t : List UInt8) (ha : ∀ c ∈ a, c.toNat < 128) (ht : ∀ c ∈ t, c.toNat < 128) : Lib.validD (a ++ l ++ t) = Lib.validD l := by
  have h1 : Lib.validD (a ++ (l ++ t)) = Lib.validD (l ++ t) := by
    induction a with
    | nil => rfl
    | cons c a ih => rw [List.cons_append, Lib.validD_cons _ _ (ha c (by simp)), ih (fun d hd => ha d (by simp [hd]))]
  rw [List.append_assoc, h1]
  cases t with
  | nil => rw [List.append_nil]
  | cons c t => exact valid_tail c t (ht c (by simp)) (valid_asc t (fun d hd => ht d (by simp [hd]))) _ l (Nat.le_refl _)
end Go.Proofs.YtkngnoipipnioaaDoor.Q
