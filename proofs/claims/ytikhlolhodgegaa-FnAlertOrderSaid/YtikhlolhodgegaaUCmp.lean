/- Comparisons that tell two things apart or not: put one behind the other they are one again. No condition. -/
import Derived.Test.YtikhlolhodgegaaHEqual
set_option linter.unusedVariables false
set_option linter.unusedSimpArgs false
namespace Go.Proofs.Ytikhlolhodgegaa.Q
open Go.RowKit
structure Cmp {α : Type} (c : α → α → Option Bool) : Prop where
  refl : ∀ a, c a a = none
  flip : ∀ a b, c b a = (c a b).map (fun r => !r)
  trans : ∀ a b d, c a b = some true → c b d = some true → c a d = some true
  cong : ∀ a b d, c a b = none → c a d = c b d
def lex {α : Type} (c1 c2 : α → α → Option Bool) (a b : α) : Option Bool := match c1 a b with | some r => some r | none => c2 a b
theorem Cmp.lex {α : Type} {c1 c2 : α → α → Option Bool} (h1 : Cmp c1) (h2 : Cmp c2) : Cmp (lex c1 c2) where
  refl a := by simp [Q.lex, h1.refl, h2.refl]
  flip a b := by
    unfold Q.lex
    rw [h1.flip a b]
    cases c1 a b with
    | some r => rfl
    | none => exact h2.flip a b
  trans a b d hab hbd := by
    unfold Q.lex at *
    cases h : c1 a b with
    | some r =>
      rw [h] at hab
      obtain rfl : r = true := Option.some.inj hab
      cases h' : c1 b d with
      | some r' =>
        rw [h'] at hbd
        obtain rfl : r' = true := Option.some.inj hbd
        rw [h1.trans a b d h h']
      | none =>
        have e : c1 a d = some true := by
          have f1 := h1.flip a d
          have f2 := h1.flip b a
          have g : c1 d b = none := by rw [h1.flip b d, h']; rfl
          have : c1 d a = c1 b a := h1.cong d b a g
          have f3 := h1.flip d a
          rw [f3, this, h1.flip a b, h]
          rfl
        rw [e]
    | none =>
      rw [h] at hab
      rw [h1.cong a b d h]
      cases h' : c1 b d with
      | some r' =>
        rw [h'] at hbd
        exact hbd
      | none =>
        rw [h'] at hbd
        exact h2.trans a b d hab hbd
  cong a b d hab := by
    unfold Q.lex at *
    cases h : c1 a b with
    | some r => rw [h] at hab; cases hab
    | none =>
      rw [h] at hab
      rw [h1.cong a b d h]
      cases c1 b d with
      | some r => rfl
      | none => exact h2.cong a b d hab
theorem Cmp.on {α β : Type} {c : β → β → Option Bool} (h : Cmp c) (f : α → β) : Cmp (fun a b => c (f a) (f b)) where
  refl a := h.refl _
  flip a b := h.flip _ _
  trans a b d := h.trans _ _ _
  cong a b d := h.cong _ _ _
def cmpB (x y : List UInt8) : Option Bool := if x = y then none else some (decide (x < y))
theorem cmpB_none {x y : List UInt8} : cmpB x y = none ↔ x = y := by
  unfold cmpB
  by_cases h : x = y <;> simp [h]
theorem cmpB_true {x y : List UInt8} : cmpB x y = some true ↔ x < y := by
  unfold cmpB
  by_cases h : x = y
  · subst h; simp [List.lt_irrefl]
  · simp [h]
theorem Cmp.bytes : Cmp cmpB where
  refl a := by simp [cmpB]
  flip a b := by
    unfold cmpB
    by_cases h : a = b
    · subst h; simp
    · rw [if_neg h, if_neg (Ne.symm h)]
      rcases lt_triS a b with h1 | h1 | h1
      · have : ¬ b < a := fun h2 => List.lt_irrefl _ (lt_trS h1 h2)
        simp [h1, this]
      · exact absurd h1 h
      · have : ¬ a < b := fun h2 => List.lt_irrefl _ (lt_trS h1 h2)
        simp [h1, this]
  trans a b d h1 h2 := by rw [cmpB_true] at *; exact lt_trS h1 h2
  cong a b d h := by rw [cmpB_none.1 h]
def rev {α : Type} (c : α → α → Option Bool) (a b : α) : Option Bool := c b a
theorem Cmp.rev {α : Type} {c : α → α → Option Bool} (h : Cmp c) : Cmp (rev c) where
  refl a := h.refl a
  flip a b := h.flip b a
  trans a b d h1 h2 := h.trans d b a h2 h1
  cong a b d hab := by
    have e : c a b = none := by rw [h.flip b a]; show Option.map _ (c b a) = _; rw [show c b a = none from hab]; rfl
    show c d a = c d b
    rw [h.flip a d, h.flip b d, h.cong a b d e]
def cmpO (x y : Option (List UInt8)) : Option Bool :=
  match x, y with
  | none, none => none
  | none, some _ => some false
  | some _, none => some true
  | some a, some b => cmpB a b
theorem Cmp.opt : Cmp cmpO where
  refl a := by cases a with | none => rfl | some a => exact Cmp.bytes.refl a
  flip a b := by
    cases a with
    | none => cases b <;> rfl
    | some a => cases b with
      | none => rfl
      | some b => exact Cmp.bytes.flip a b
  trans a b d h1 h2 := by
    cases a with
    | none => cases b <;> simp [cmpO] at h1
    | some a => cases d with
      | none => rfl
      | some d => cases b with
        | none => simp [cmpO] at h2
        | some b => exact Cmp.bytes.trans a b d h1 h2
  cong a b d h := by
    cases a with
    | none => cases b with
      | none => rfl
      | some b => simp [cmpO] at h
    | some a => cases b with
      | none => simp [cmpO] at h
      | some b => rw [cmpB_none.1 h]
def cmpN (x y : Nat) : Option Bool := if x < y then some true else if y < x then some false else none
theorem Cmp.nat : Cmp cmpN where
  refl a := by simp [cmpN]
  flip a b := by
    unfold cmpN
    by_cases h1 : a < b
    · rw [if_pos h1, if_neg (by omega), if_pos h1]; rfl
    · by_cases h2 : b < a
      · rw [if_pos h2, if_neg h1, if_pos h2]; rfl
      · rw [if_neg h1, if_neg h2, if_neg h2, if_neg h1]; rfl
  trans a b d h1 h2 := by
    unfold cmpN at *
    split at h1
    · split at h2
      · rw [if_pos (by omega)]
      · split at h2 <;> simp at h2
    · split at h1 <;> simp at h1
  cong a b d h := by
    unfold cmpN at h
    split at h
    · cases h
    · split at h
      · cases h
      · rw [show a = b by omega]
def cmpP (p q : S59) : Option Bool := lex (rev (fun p q : S59 => cmpB p.f0.toList q.f0.toList)) (fun p q => cmpB p.f1.toList q.f1.toList) p q
theorem Cmp.pair : Cmp cmpP := Cmp.lex (Cmp.rev (Cmp.on Cmp.bytes (fun p : S59 => p.f0.toList))) (Cmp.on Cmp.bytes (fun p : S59 => p.f1.toList))
theorem cmpP_none {p q : S59} (h : cmpP p q = none) : p = q := by
  unfold cmpP lex rev at h
  split at h
  · cases h
  · rename_i h0
    have e0 := ba_ext (cmpB_none.1 h0)
    have e1 := ba_ext (cmpB_none.1 h)
    cases p; cases q
    simp_all
def cmpL : List S59 → List S59 → Option Bool
  | [], [] => none
  | [], _ :: _ => some true
  | _ :: _, [] => some false
  | p :: X, q :: Y => match cmpP p q with | some r => some r | none => cmpL X Y
theorem Cmp.list : Cmp cmpL where
  refl a := by
    induction a with
    | nil => rfl
    | cons p X ih => simp [cmpL, Cmp.pair.refl, ih]
  flip a := by
    induction a with
    | nil => intro b; cases b <;> rfl
    | cons p X ih =>
      intro b
      cases b with
      | nil => rfl
      | cons q Y =>
        simp only [cmpL]
        rw [Cmp.pair.flip p q]
        cases cmpP p q with
        | some r => rfl
        | none => exact ih Y
  trans a := by
    induction a with
    | nil =>
      intro b d h1 h2
      cases d with
      | nil => cases b <;> simp [cmpL] at h1 h2
      | cons r Z => rfl
    | cons p X ih =>
      intro b d h1 h2
      cases b with
      | nil => simp [cmpL] at h1
      | cons q Y =>
        cases d with
        | nil => simp [cmpL] at h2
        | cons r Z =>
          simp only [cmpL] at *
          cases hpq : cmpP p q with
          | some t =>
            rw [hpq] at h1
            obtain rfl : t = true := Option.some.inj h1
            cases hqr : cmpP q r with
            | some u =>
              rw [hqr] at h2
              obtain rfl : u = true := Option.some.inj h2
              rw [Cmp.pair.trans p q r hpq hqr]
            | none =>
              rw [← cmpP_none hqr, hpq]
          | none =>
            rw [hpq] at h1
            rw [cmpP_none hpq]
            cases hqr : cmpP q r with
            | some u =>
              rw [hqr] at h2
              exact h2
            | none =>
              rw [hqr] at h2
              exact ih Y Z h1 h2
  cong a := by
    induction a with
    | nil =>
      intro b d h
      cases b with
      | nil => rfl
      | cons q Y => simp [cmpL] at h
    | cons p X ih =>
      intro b d h
      cases b with
      | nil => simp [cmpL] at h
      | cons q Y =>
        simp only [cmpL] at h
        cases hpq : cmpP p q with
        | some t => rw [hpq] at h; cases h
        | none =>
          rw [hpq] at h
          rw [cmpP_none hpq]
          cases d with
          | nil => rfl
          | cons r Z =>
            simp only [cmpL]
            cases cmpP q r with
            | some t => rfl
            | none => exact ih Y Z h
theorem cmpL_none : ∀ {X Y : List S59}, cmpL X Y = none → X = Y
  | [], [], _ => rfl
  | [], _ :: _, h => by simp [cmpL] at h
  | _ :: _, [], h => by simp [cmpL] at h
  | p :: X, q :: Y, h => by
    simp only [cmpL] at h
    cases hpq : cmpP p q with
    | some t => rw [hpq] at h; cases h
    | none =>
      rw [hpq] at h
      rw [cmpP_none hpq, cmpL_none h]
theorem lessL_is : ∀ (X Y : List S59), X.length = Y.length → lessL X Y = (cmpL X Y).getD false
  | [], [], _ => rfl
  | [], _ :: _, h => by simp at h
  | _ :: _, [], h => by simp at h
  | p :: X, q :: Y, h => by
    simp only [cmpL, lessL]
    unfold cmpP lex rev cmpB
    dsimp only
    by_cases e0 : p.f0.toList = q.f0.toList
    · rw [if_pos e0, if_pos e0.symm]
      by_cases e1 : p.f1.toList = q.f1.toList
      · rw [if_pos e1, if_pos e1]
        exact lessL_is X Y (by simpa using h)
      · rw [if_neg e1, if_neg e1, bless_eqS]
        rfl
    · rw [if_neg e0, if_neg (Ne.symm e0), bless_eqS]
      rfl
def cmpSet (X Y : List S59) : Option Bool := lex (fun X Y : List S59 => cmpN X.length Y.length) cmpL X Y
theorem Cmp.set : Cmp cmpSet := Cmp.lex (Cmp.on Cmp.nat (fun X : List S59 => X.length)) Cmp.list
theorem befP_cmp (X Y : List S59) : befP X Y = (cmpSet X Y).getD false := by
  unfold befP cmpSet lex cmpN
  dsimp only
  by_cases h1 : X.length < Y.length
  · rw [if_pos h1, if_pos h1]; rfl
  · rw [if_neg h1, if_neg h1]
    by_cases h2 : Y.length < X.length
    · rw [if_pos h2, if_pos h2]; rfl
    · rw [if_neg h2, if_neg h2]
      exact lessL_is X Y (by omega)
theorem cmpSet_none {X Y : List S59} (h : cmpSet X Y = none) : X = Y := by
  unfold cmpSet lex at h
  split at h
  · cases h
  · exact cmpL_none h
end Go.Proofs.Ytikhlolhodgegaa.Q
