/- Plain words: what the old reader's parts of a text are, and what the reference's functions on it give. Condition: a text of at most 100000 bytes. Plain words: the value that the reference takes, and the parts that the old reader takes. Condition: a text of at most 100000 bytes. Plain words: the old reader and the reference read the same matcher. Condition: a text of at most 100000 bytes without the sign of regular expressions. Plain words: what the reference says of a text, the old reader takes. Condition: a text of at most 100000 bytes without the sign of regular expressions. -/
import Derived.Test.YtkngnoipipnioaaDoorUBy
import Derived.Test.YtkngnoipipnioaaDoorUClass
import Derived.Test.YtkngnoipipnioaaDoorQC
import Derived.Test.YtkngnoipipnioaaDoorQB
import Derived.Test.YtkngnoipipnioaaDoorUVal
set_option linter.unusedVariables false
set_option linter.unusedSimpArgs false
namespace Go.Proofs.YtkngnoipipnioaaDoor.Q
open Go.RowKit Go.Proofs.YtkngnoipipnioaaDoorW.PrintWords Go.Proofs.YtkngnoipipnioaaDoorW.PrintLast Go.Proofs.YtkngnoipipnioaaDoorW.PrintMore
theorem allU8 (P : UInt8 → Prop) (h : ∀ n : Fin 256, P (UInt8.ofNat n.val)) (c : UInt8) : P c := by
  have := h ⟨c.toNat, c.toNat_lt⟩
  simpa using this
def blk (c : UInt8) : Bool := c == 32 || c == 9 || c == 10 || c == 12 || c == 13
theorem blank_is (c : UInt8) : labels_zzBlank.f (c.toNat : Int) = some (blk c) := by
  revert c
  exact allU8 _ (by decide +kernel)
theorem sblank_is (c : UInt8) : spec_classicBlank.f (c.toNat : Int) = some (blk c) := by
  revert c
  exact allU8 _ (by decide +kernel)
theorem blk_asc (c : UInt8) : blk c = true → c.toNat < 128 := by
  revert c
  exact allU8 _ (by decide +kernel)
/-- A byte of a name, to the old reader (with colons) and to the reference (without). -/
def nmC (c : UInt8) (first : Bool) : Bool := (97 ≤ c && c ≤ 122) || (65 ≤ c && c ≤ 90) || c == 95 || c == 58 || (!first && (48 ≤ c && c ≤ 57))
def nmL (c : UInt8) (first : Bool) : Bool := (97 ≤ c && c ≤ 122) || (65 ≤ c && c ≤ 90) || c == 95 || (!first && (48 ≤ c && c ≤ 57))
theorem nameByte_is (c : UInt8) (b : Bool) : labels_zzNameByte.f (c.toNat : Int) b = some (nmC c b) := by
  revert c
  cases b
  all_goals exact allU8 _ (by decide +kernel)
theorem nm_asc (c : UInt8) (b : Bool) : nmC c b = true → c.toNat < 128 := by
  revert c
  cases b
  all_goals exact allU8 _ (by decide +kernel)
theorem nm_blk (c : UInt8) (b : Bool) : nmC c b = true → blk c = false := by
  revert c
  cases b
  all_goals exact allU8 _ (by decide +kernel)
theorem nm_colon (c : UInt8) (b : Bool) : nmC c b = (nmL c b || c == 58) := by
  revert c
  cases b
  all_goals exact allU8 _ (by decide +kernel)
theorem nmL_colon (b : Bool) : nmL 58 b = false := by cases b <;> decide
/-- How many bytes at the head have a property. -/
def spn (p : UInt8 → Bool) (l : List UInt8) : Nat := (l.takeWhile p).length
theorem spn_nil (p : UInt8 → Bool) : spn p [] = 0 := rfl
theorem spn_cons (p : UInt8 → Bool) (c : UInt8) (l : List UInt8) : spn p (c :: l) = if p c then spn p l + 1 else 0 := by
  unfold spn
  rw [List.takeWhile_cons]
  split <;> simp
theorem spn_le (p : UInt8 → Bool) (l : List UInt8) : spn p l ≤ l.length := by
  induction l with
  | nil => exact Nat.le_refl _
  | cons c l ih => rw [spn_cons]; split <;> simp <;> omega
theorem spn_drop (p : UInt8 → Bool) (l : List UInt8) : l.drop (spn p l) = l.dropWhile p := by
  induction l with
  | nil => rfl
  | cons c l ih =>
    rw [spn_cons, List.dropWhile_cons]
    split
    · rw [List.drop_succ_cons, ih]
    · rfl
theorem spn_at (p : UInt8 → Bool) (l : List UInt8) (i : Nat) (h : i < l.length) : (i < spn p l → p l[i] = true) ∧ (i = spn p l → p l[i] = false) := by
  induction l generalizing i with
  | nil => simp at h
  | cons c l ih =>
    rw [spn_cons]
    by_cases hc : p c = true
    · rw [if_pos hc]
      cases i with
      | zero => exact ⟨fun _ => hc, fun e => by omega⟩
      | succ i =>
        have h2 : i < l.length := by simpa using h
        exact ⟨fun e => (ih i h2).1 (by omega), fun e => (ih i h2).2 (by omega)⟩
    · rw [if_neg hc]
      refine ⟨fun e => by omega, fun e => ?_⟩
      subst e
      simpa using hc
/-- A loop that goes n places on. -/
theorem go_ev {α : Type} {F : Nat → Int → Option α} {r : α} : ∀ (n i : Nat), (∀ j, i ≤ j → j < i + n → ∀ k, F (k + 1) (j : Int) = F k ((j + 1 : Nat) : Int)) → Ev (fun k => F k ((i + n : Nat) : Int)) r → Ev (fun k => F k (i : Int)) r
  | 0, _, _, h => h
  | n + 1, i, hs, h => by
    refine Ev.step (G := fun k => F k ((i + 1 : Nat) : Int)) ?_ 1 (fun k => hs i (Nat.le_refl _) (by omega) k)
    refine go_ev n (i + 1) (fun j h1 h2 k => hs j (by omega) (by omega) k) ?_
    have e : i + 1 + n = i + (n + 1) := by omega
    rw [e]
    exact h
/-- A loop that goes n places back. -/
theorem back_ev {α : Type} {F : Nat → Int → Option α} {r : α} : ∀ (n i : Nat), (∀ j, i < j → j ≤ i + n → ∀ k, F (k + 1) (j : Int) = F k ((j - 1 : Nat) : Int)) → Ev (fun k => F k (i : Int)) r → Ev (fun k => F k ((i + n : Nat) : Int)) r
  | 0, _, _, h => h
  | n + 1, i, hs, h => by
    refine Ev.step (G := fun k => F k ((i + n : Nat) : Int)) ?_ 1 (fun k => hs (i + (n + 1)) (by omega) (by omega) k)
    exact back_ev n i (fun j h1 h2 k => hs j h1 (by omega) k) h
def trimL (l : List UInt8) : List UInt8 := l.dropWhile blk
def trimR (l : List UInt8) : List UInt8 := (l.reverse.dropWhile blk).reverse
def trim (l : List UInt8) : List UInt8 := trimR (trimL l)
theorem trimR_take (l : List UInt8) : trimR l = l.take (l.length - spn blk l.reverse) := by
  unfold trimR
  rw [← spn_drop, List.drop_reverse, List.reverse_reverse]
theorem trimR_snoc (l : List UInt8) (c : UInt8) : trimR (l ++ [c]) = if blk c then trimR l else l ++ [c] := by
  unfold trimR
  rw [List.reverse_append]
  show (List.dropWhile blk (c :: l.reverse)).reverse = _
  rw [List.dropWhile_cons]
  split
  · rfl
  · simp
theorem trimR_nil : trimR [] = [] := rfl
/-! ### the reference's functions -/
theorem trim_back (l : List UInt8) (hl : l.length ≤ 100000) : Ev (fun k => spec_trimmed.l1 k (mk l)) (mk (trimR l)) := by
  obtain ⟨m, rfl⟩ : ∃ m : List UInt8, l = m.reverse := ⟨l.reverse, by simp⟩
  rw [List.length_reverse] at hl
  induction m with
  | nil =>
    refine Ev.now 1 (fun k => ?_)
    simp only [spec_trimmed.l1]
    rw [if_neg (by rw [mk_size]; simp)]
    rfl
  | cons c m ih =>
    have hlen : m.length + 1 ≤ 100000 := by simpa using hl
    rw [List.reverse_cons]
    have hz : (mk (m.reverse ++ [c])).size = m.length + 1 := by rw [mk_size]; simp
    have hw : wrap64 (((mk (m.reverse ++ [c])).size : Int) - 1) = (m.length : Int) := by rw [hz]; unfold wrap64; omega
    have hb : bt (mk (m.reverse ++ [c])) (m.length : Int) = (c.toNat : Int) := bt_app m.reverse c [] m.length (by simp)
    have hx : (mk (m.reverse ++ [c])).extract 0 ((m.length : Int)).toNat = mk m.reverse := by
      rw [mk_upto, Int.toNat_natCast, List.take_append_of_le_length (by simp), List.take_of_length_le (by simp)]
    rw [trimR_snoc]
    by_cases hc : blk c = true
    · rw [if_pos hc]
      refine Ev.step (ih (by omega)) 1 (fun k => ?_)
      simp only [spec_trimmed.l1]
      rw [hw, hb, sblank_is, hc, if_pos (by omega), if_pos (by omega), if_pos (by omega), hx]
      simp only [Option.bind_some, if_true]
      rw [if_pos (by omega)]
    · rw [if_neg hc]
      refine Ev.now 1 (fun k => ?_)
      simp only [spec_trimmed.l1]
      rw [hw, hb, sblank_is, if_pos (by omega), if_pos (by omega), if_pos (by omega), Option.bind_some, if_neg hc]
theorem trimmed_is (l : List UInt8) (hl : l.length ≤ 100000) : Ev (fun k => spec_trimmed.f k (mk l)) (mk (trim l)) := by
  unfold trim trimL spec_trimmed.f
  have hj : ∀ l : List UInt8, l.length ≤ 100000 → Ev (fun k => spec_trimmed.j1 k (mk l)) (mk (trimR l)) := fun l hl => Ev.step (trim_back l hl) 1 (fun k => rfl)
  induction l with
  | nil =>
    refine Ev.step (hj [] (by simp)) 1 (fun k => ?_)
    simp only [spec_trimmed.l0]
    rw [if_neg (by rw [mk_size]; simp)]
  | cons c l ih =>
    have hlen : l.length + 1 ≤ 100000 := by simpa using hl
    have hz : (mk (c :: l)).size = l.length + 1 := by rw [mk_size]; simp
    rw [List.dropWhile_cons]
    by_cases hc : blk c = true
    · rw [if_pos hc]
      refine Ev.step (ih (by omega)) 1 (fun k => ?_)
      simp only [spec_trimmed.l0]
      rw [if_pos (by omega), if_pos (by omega), bt_mk0, sblank_is, Option.bind_some, if_pos hc, if_pos (by omega), mk_from]
      rfl
    · rw [if_neg hc]
      refine Ev.step (hj (c :: l) hl) 1 (fun k => ?_)
      simp only [spec_trimmed.l0]
      rw [if_pos (by omega), if_pos (by omega), bt_mk0, sblank_is, Option.bind_some, if_neg hc]
/-- How long the name at the head is. -/
def nlen (q : UInt8 → Bool → Bool) : List UInt8 → Nat
  | [] => 0
  | c :: l => if q c true then spn (fun d => q d false) l + 1 else 0
theorem nlen_le (q : UInt8 → Bool → Bool) (l : List UInt8) : nlen q l ≤ l.length := by
  cases l with
  | nil => exact Nat.le_refl _
  | cons c l =>
    have := spn_le (fun d => q d false) l
    simp only [nlen, List.length_cons]
    split <;> omega
theorem nlen_at (q : UInt8 → Bool → Bool) (l : List UInt8) (i : Nat) (h : i < l.length) : (i < nlen q l → q l[i] (i == 0) = true) ∧ (i = nlen q l → q l[i] (i == 0) = false) := by
  cases l with
  | nil => simp at h
  | cons c l =>
    by_cases hc : q c true = true
    · simp only [nlen, if_pos hc]
      cases i with
      | zero => exact ⟨fun _ => hc, fun e => by omega⟩
      | succ i =>
        have h2 : i < l.length := by simpa using h
        have := spn_at (fun d => q d false) l i h2
        exact ⟨fun e => this.1 (by omega), fun e => this.2 (by omega)⟩
    · simp only [nlen, if_neg hc]
      refine ⟨fun e => by omega, fun e => ?_⟩
      subst e
      simpa using hc
theorem nameEnd_step (l : List UInt8) (i : Nat) (h : i < l.length) (hl : l.length ≤ 100000) (k : Nat) : spec_nameEnd.l0 (k + 1) (mk l) (i : Int) = if nmL l[i] (i == 0) = true then spec_nameEnd.l0 k (mk l) ((i + 1 : Nat) : Int) else some (i : Int) := by
  simp only [spec_nameEnd.l0]
  rw [if_pos (by rw [mk_size]; omega), if_pos (by omega), bt_mk l i h, w64s i (by omega)]
  generalize l[i] = c
  generalize spec_nameEnd.l0 k (mk l) ((i + 1 : Nat) : Int) = X
  have e : (nmL c (i == 0) = true) ↔ ((c.toNat : Int) = 95 ∨ (97 ≤ (c.toNat : Int) ∧ (c.toNat : Int) ≤ 122) ∨ (65 ≤ (c.toNat : Int) ∧ (c.toNat : Int) ≤ 90) ∨ (0 < i ∧ 48 ≤ (c.toNat : Int) ∧ (c.toNat : Int) ≤ 57)) := by
    have e1 : (c == 95) = decide (c.toNat = 95) := by
      rw [Bool.eq_iff_iff]; simp [← UInt8.toNat_inj]
    simp only [nmL, e1, UInt8.le_iff_toNat_le]
    simp
    have h0 : (¬ i = 0) ↔ 0 < i := by omega
    rw [h0]
    constructor
    · intro h; omega
    · intro h; omega
  by_cases hq : nmL c (i == 0) = true
  · rw [if_pos hq]
    have := e.1 hq
    clear e hq
    repeat' split
    all_goals first | rfl | (exfalso; omega)
  · rw [if_neg hq]
    have := fun h => hq (e.2 h)
    clear e hq
    repeat' split
    all_goals first | rfl | (exfalso; apply this; omega)
theorem nameEnd_is (l : List UInt8) (hl : l.length ≤ 100000) : Ev (fun k => spec_nameEnd.f k (mk l)) (nlen nmL l : Int) := by
  unfold spec_nameEnd.f
  have hle := nlen_le nmL l
  refine go_ev (F := fun k i => spec_nameEnd.l0 k (mk l) i) (nlen nmL l) 0 (fun j _ hj k => ?_) ?_
  · have h : j < l.length := by omega
    rw [nameEnd_step l j h hl, if_pos ((nlen_at nmL l j h).1 (by omega))]
  · refine Ev.now 1 (fun k => ?_)
    rw [Nat.zero_add]
    by_cases h : nlen nmL l < l.length
    · rw [nameEnd_step l _ h hl, if_neg (by rw [(nlen_at nmL l _ h).2 rfl]; decide)]
    · simp only [spec_nameEnd.l0]
      rw [if_neg (by rw [mk_size]; omega)]
/-- What the reference takes of a value: 'acc': what has been written. -/
def escP : List UInt8 → List UInt8 → Option (List UInt8)
  | [], acc => some acc
  | [c], acc => if c = 34 then none else some (acc ++ [c])
  | c :: d :: m, acc => if c = 34 then none else if c = 92 then (if d = 110 then escP m (acc ++ [10]) else if d = 34 then escP m (acc ++ [d]) else if d = 92 then escP m (acc ++ [d]) else escP (d :: m) (acc ++ [c])) else escP (d :: m) (acc ++ [c])
theorem escP_34 (l acc : List UInt8) : escP (34 :: l) acc = none := by cases l <;> simp [escP]
theorem escP_other (c : UInt8) (l acc : List UInt8) (h : c ≠ 34) (h2 : c ≠ 92) : escP (c :: l) acc = escP l (acc ++ [c]) := by cases l <;> simp [escP, h, h2]
theorem escP_92 (d : UInt8) (m acc : List UInt8) : escP (92 :: d :: m) acc = if d = 110 then escP m (acc ++ [10]) else if d = 34 then escP m (acc ++ [d]) else if d = 92 then escP m (acc ++ [d]) else escP (d :: m) (acc ++ [92]) := by simp [escP]
theorem escP_last (acc : List UInt8) : escP [92] acc = escP [] (acc ++ [92]) := by simp [escP]
def ints (l : List UInt8) : List Int := l.map fun c => (c.toNat : Int)
theorem ints_snoc (l : List UInt8) (c : UInt8) : ints l ++ [(c.toNat : Int)] = ints (l ++ [c]) := by simp [ints]
theorem ints_len (l : List UInt8) : (ints l).length = l.length := by simp [ints]
theorem ints_str (l : List UInt8) : strOfNums (ints l) = mk l := by
  apply ByteArray.ext
  simp only [strOfNums, ints, mk, List.map_map]
  congr 1
  conv => rhs; rw [← List.map_id l]
  congr 1
  funext c
  simp
def escR (o : Option (List UInt8)) : ByteArray × Int := match o with | none => (⟨#[]⟩, 0) | some x => (mk x, 1)
theorem escaped_go (s : List UInt8) (hs : s.length ≤ 100000) : ∀ (n : Nat) (l a acc : List UInt8), l.length ≤ n → s = a ++ l → acc.length ≤ a.length → Ev (fun k => spec_escaped.l0 k (mk s) (ints acc) (a.length : Int)) (escR (escP l acc))
  | n, [], a, acc, _, h, _ => by
    refine Ev.now 1 (fun k => ?_)
    simp only [spec_escaped.l0]
    rw [if_neg (by rw [mk_size, h]; simp), ints_str]
    simp [escP, escR]
  | 0, _ :: _, _, _, hn, _, _ => absurd hn (by simp)
  | n + 1, c :: l, a, acc, hn, h, ha => by
    have hz : (mk s).size = a.length + (l.length + 1) := by rw [mk_size, h]; simp
    have hsl : s.length = a.length + (l.length + 1) := by rw [h]; simp
    have hb : bt (mk s) (a.length : Int) = (c.toNat : Int) := by rw [h]; exact bt_app a c l _ rfl
    have hln : l.length ≤ n := by simpa using hn
    have hcn : ∀ x : UInt8, ((c.toNat : Int) = (x.toNat : Int)) ↔ c = x := fun x => ⟨fun e => UInt8.toNat_inj.1 (by omega), fun e => by rw [e]⟩
    have hacc : (ints acc).length < 140737488355328 := by rw [ints_len]; omega
    have hcons : ∀ x : List UInt8, Ev (fun k => spec_escaped.l0 k (mk s) (ints (acc ++ [c])) ((a.length + 1 : Nat) : Int)) (escR (escP l (acc ++ [c]))) := fun _ => by
      have := escaped_go s hs n l (a ++ [c]) (acc ++ [c]) hln (by rw [h]; simp) (by simp; omega)
      rw [List.length_append] at this
      exact this
    have one : ∀ k, spec_escaped.l0 (k + 1) (mk s) (ints acc) (a.length : Int) = if (c.toNat : Int) = 34 then some (⟨#[]⟩, 0) else if (c.toNat : Int) = 92 then spec_escaped.j1 k (mk s) (ints acc) (a.length : Int) (c.toNat : Int) (decide (((a.length + 1 : Nat) : Int) < ((mk s).size : Int))) else spec_escaped.j1 k (mk s) (ints acc) (a.length : Int) (c.toNat : Int) false := fun k => by
      simp only [spec_escaped.l0]
      rw [if_pos (by omega), if_pos (by omega), hb, w64s a.length (by omega)]
    have jf : ∀ k, spec_escaped.j1 (k + 1) (mk s) (ints acc) (a.length : Int) (c.toNat : Int) false = spec_escaped.l0 k (mk s) (ints (acc ++ [c])) ((a.length + 1 : Nat) : Int) := fun k => by
      simp only [spec_escaped.j1]
      rw [if_neg (by decide), if_pos hacc, ints_snoc, w64s a.length (by omega)]
    by_cases h34 : c = 34
    · refine Ev.now 1 (fun k => ?_)
      rw [one, if_pos (by rw [h34]; rfl), h34, escP_34]
      rfl
    · have n34 : ¬ (c.toNat : Int) = 34 := fun e => h34 ((hcn 34).1 e)
      by_cases h92 : c = 92
      · have e92 : (c.toNat : Int) = 92 := by rw [h92]; rfl
        cases l with
        | nil =>
          have hE : escP [c] acc = escP [] (acc ++ [c]) := by rw [h92]; exact escP_last acc
          rw [hE]
          refine Ev.step (hcons []) 2 (fun k => ?_)
          rw [one, if_neg n34, if_pos e92]
          rw [decide_eq_false (by rw [hz]; simp)]
          exact jf k
        | cons d m =>
          have hlen2 : a.length + 1 < s.length := by rw [hsl]; simp
          have hbd : bt (mk s) ((a.length + 1 : Nat) : Int) = (d.toNat : Int) := by
            rw [h, show a ++ c :: d :: m = (a ++ [c]) ++ d :: m by simp]
            exact bt_app (a ++ [c]) d m _ (by simp)
          have hdn : ∀ x : UInt8, ((d.toNat : Int) = (x.toNat : Int)) ↔ d = x := fun x => ⟨fun e => UInt8.toNat_inj.1 (by omega), fun e => by rw [e]⟩
          have hm : ∀ x : UInt8, Ev (fun k => spec_escaped.l0 k (mk s) (ints (acc ++ [x])) ((a.length + 2 : Nat) : Int)) (escR (escP m (acc ++ [x]))) := fun x => by
            have := escaped_go s hs n m (a ++ [c, d]) (acc ++ [x]) (by simp at hln; omega) (by rw [h]; simp) (by simp; omega)
            rw [List.length_append] at this
            exact this
          have jt : ∀ k, spec_escaped.j1 (k + 1) (mk s) (ints acc) (a.length : Int) (c.toNat : Int) true = if (d.toNat : Int) = 110 then spec_escaped.l0 k (mk s) (ints acc ++ [10]) ((a.length + 2 : Nat) : Int) else if (d.toNat : Int) = 34 then spec_escaped.l0 k (mk s) (ints acc ++ [(d.toNat : Int)]) ((a.length + 2 : Nat) : Int) else if (d.toNat : Int) = 92 then spec_escaped.l0 k (mk s) (ints acc ++ [(d.toNat : Int)]) ((a.length + 2 : Nat) : Int) else spec_escaped.l0 k (mk s) (ints (acc ++ [c])) ((a.length + 1 : Nat) : Int) := fun k => by
            simp only [spec_escaped.j1]
            rw [if_pos trivial, w64s a.length (by omega), if_pos (by omega), if_pos (by rw [mk_size]; omega), hbd, w64s (a.length + 1) (by omega), if_pos hacc, if_pos hacc, if_pos hacc, ints_snoc acc c]
          have hdec : decide (((a.length + 1 : Nat) : Int) < ((mk s).size : Int)) = true := decide_eq_true (by rw [mk_size]; omega)
          have two : ∀ k, spec_escaped.l0 (k + 2) (mk s) (ints acc) (a.length : Int) = if (d.toNat : Int) = 110 then spec_escaped.l0 k (mk s) (ints acc ++ [10]) ((a.length + 2 : Nat) : Int) else if (d.toNat : Int) = 34 then spec_escaped.l0 k (mk s) (ints acc ++ [(d.toNat : Int)]) ((a.length + 2 : Nat) : Int) else if (d.toNat : Int) = 92 then spec_escaped.l0 k (mk s) (ints acc ++ [(d.toNat : Int)]) ((a.length + 2 : Nat) : Int) else spec_escaped.l0 k (mk s) (ints (acc ++ [c])) ((a.length + 1 : Nat) : Int) := fun k => by
            rw [one, if_neg n34, if_pos e92, hdec, jt]
          have hE : escP (c :: d :: m) acc = if d = 110 then escP m (acc ++ [10]) else if d = 34 then escP m (acc ++ [d]) else if d = 92 then escP m (acc ++ [d]) else escP (d :: m) (acc ++ [c]) := by
            rw [h92]; exact escP_92 d m acc
          rw [hE]
          by_cases g1 : d = 110
          · rw [if_pos g1]
            refine Ev.step (hm 10) 2 (fun k => ?_)
            rw [two, if_pos (show (d.toNat : Int) = 110 from (hdn 110).2 g1), ← ints_snoc]
            rfl
          · rw [if_neg g1]
            by_cases g2 : d = 34
            · rw [if_pos g2]
              refine Ev.step (hm d) 2 (fun k => ?_)
              rw [two, if_neg (show ¬ (d.toNat : Int) = 110 from fun e => g1 ((hdn 110).1 e)), if_pos (show (d.toNat : Int) = 34 from (hdn 34).2 g2), ints_snoc]
            · rw [if_neg g2]
              by_cases g3 : d = 92
              · rw [if_pos g3]
                refine Ev.step (hm d) 2 (fun k => ?_)
                rw [two, if_neg (show ¬ (d.toNat : Int) = 110 from fun e => g1 ((hdn 110).1 e)), if_neg (show ¬ (d.toNat : Int) = 34 from fun e => g2 ((hdn 34).1 e)), if_pos (show (d.toNat : Int) = 92 from (hdn 92).2 g3), ints_snoc]
              · rw [if_neg g3]
                refine Ev.step (hcons []) 2 (fun k => ?_)
                rw [two, if_neg (show ¬ (d.toNat : Int) = 110 from fun e => g1 ((hdn 110).1 e)), if_neg (show ¬ (d.toNat : Int) = 34 from fun e => g2 ((hdn 34).1 e)), if_neg (show ¬ (d.toNat : Int) = 92 from fun e => g3 ((hdn 92).1 e))]
      · have hE : escP (c :: l) acc = escP l (acc ++ [c]) := escP_other c l acc h34 h92
        rw [hE]
        refine Ev.step (hcons []) 2 (fun k => ?_)
        rw [one, if_neg n34, if_neg (show ¬ (c.toNat : Int) = 92 from fun e => h92 ((hcn 92).1 e))]
        exact jf k
theorem escaped_is (l : List UInt8) (hl : l.length ≤ 100000) : Ev (fun k => spec_escaped.f k (mk l)) (escR (escP l [])) :=
  escaped_go l hl _ l [] [] (Nat.le_refl _) rfl (Nat.le_refl _)
/-- How many backslashes stand at the end. -/
def tails (l : List UInt8) : Nat := spn (· == 92) l.reverse
theorem endsEscaped_is (l : List UInt8) (c : UInt8) (hl : l.length ≤ 100000) : Ev (fun k => spec_endsEscaped.f k (mk (l ++ [c]))) (decide (tails l % 2 = 1)) := by
  obtain ⟨m, rfl⟩ : ∃ m : List UInt8, l = m.reverse := ⟨l.reverse, by simp⟩
  rw [List.length_reverse] at hl
  have hx : ((mk (m.reverse ++ [c])).size : Int) = (m.length : Int) + 1 := by rw [mk_size]; simp
  unfold spec_endsEscaped.f tails
  rw [hx, List.reverse_reverse]
  have key : ∀ (m t : List UInt8) (n : Nat), n + m.length ≤ 100000 → Ev (fun k => spec_endsEscaped.l0 k (mk (m.reverse ++ t ++ [c])) (n : Int) ((m.length : Int) - 1)) (decide ((n + spn (· == 92) m) % 2 = 1)) := by
    intro m
    induction m with
    | nil =>
      intro t n h
      refine Ev.now 1 (fun k => ?_)
      simp only [spec_endsEscaped.l0]
      rw [if_neg (by simp)]
      congr 1
      rw [spn_nil, Nat.add_zero, Bool.eq_iff_iff]
      have : Int.tmod (n : Int) 2 = ((n % 2 : Nat) : Int) := by rw [Int.tmod_eq_emod_of_nonneg (by omega)]; omega
      rw [this]
      simp
      omega
    | cons d m ih =>
      intro t n h
      have hlen : n + (m.length + 1) ≤ 100000 := by simpa using h
      have hz : (mk ((d :: m).reverse ++ t ++ [c])).size = m.length + 1 + t.length + 1 := by rw [mk_size]; simp; omega
      have e1 : ((d :: m).length : Int) - 1 = (m.length : Int) := by simp
      have hb : bt (mk ((d :: m).reverse ++ t ++ [c])) (m.length : Int) = (d.toNat : Int) := by
        rw [List.reverse_cons, List.append_assoc, List.append_assoc]
        exact bt_app m.reverse d (t ++ [c]) _ (by simp)
      rw [e1]
      have one : ∀ k, spec_endsEscaped.l0 (k + 1) (mk ((d :: m).reverse ++ t ++ [c])) (n : Int) (m.length : Int) = if (d.toNat : Int) = 92 then spec_endsEscaped.l0 k (mk ((d :: m).reverse ++ t ++ [c])) ((n + 1 : Nat) : Int) ((m.length : Int) - 1) else some (Int.tmod (n : Int) 2 == 1) := fun k => by
        simp only [spec_endsEscaped.l0]
        rw [if_pos (by omega), if_pos (by omega), if_pos (by omega), hb, w64s n (by omega), w64i ((m.length : Int) - 1) (by omega) (by omega)]
      by_cases hd : d = 92
      · have := ih (d :: t) (n + 1) (by omega)
        have e2 : spn (· == 92) (d :: m) = spn (· == 92) m + 1 := by rw [spn_cons, if_pos (by simp [hd])]
        rw [e2, show n + (spn (· == 92) m + 1) = n + 1 + spn (· == 92) m by omega]
        refine Ev.step this 1 (fun k => ?_)
        rw [one, if_pos (by rw [hd]; rfl)]
        simp
      · have e2 : spn (· == 92) (d :: m) = 0 := by rw [spn_cons, if_neg (by simp [hd])]
        rw [e2]
        refine Ev.now 1 (fun k => ?_)
        rw [one, if_neg (fun e => hd (UInt8.toNat_inj.1 (by have : d.toNat = 92 := by omega
                                                            exact this)))]
        congr 1
        rw [Nat.add_zero, Bool.eq_iff_iff]
        have : Int.tmod (n : Int) 2 = ((n % 2 : Nat) : Int) := by rw [Int.tmod_eq_emod_of_nonneg (by omega)]; omega
        rw [this]
        simp
        omega
  have := key m [] 0 (by simp; omega)
  rw [List.append_nil, Nat.zero_add] at this
  have e3 : wrap64 ((m.length : Int) + 1 - 2) = (m.length : Int) - 1 := by unfold wrap64; omega
  rw [e3]
  exact this
end Go.Proofs.YtkngnoipipnioaaDoor.Q
namespace Go.Proofs.YtkngnoipipnioaaDoor.Q
open Go.RowKit Go.Proofs.YtkngnoipipnioaaDoorW.PrintWords Go.Proofs.YtkngnoipipnioaaDoorW.PrintLast Go.Proofs.YtkngnoipipnioaaDoorW.PrintMore
/-- What the reference takes the third token for. -/
def cvalP (l : List UInt8) : ByteArray × Int :=
  if l.head? = some 34 then (if l.getLast? = some 34 ∧ ¬ tails l.dropLast % 2 = 1 ∧ 1 < l.length then escR (escP (l.drop 1).dropLast []) else (⟨#[]⟩, 2))
  else (if l.getLast? = some 34 ∧ ¬ tails l.dropLast % 2 = 1 then (⟨#[]⟩, 2) else escR (escP l []))
theorem escR_pair (o : Option (List UInt8)) (F : Nat → Option (ByteArray × Int)) (h : Ev F (escR o)) : Ev (fun k => (F k).bind fun b => some (b.1, b.2)) (escR o) :=
  Ev.bind (G := fun _ b => some (b.1, b.2)) h (Ev.const _)
theorem classicValue_is (l : List UInt8) (hl : l.length ≤ 100000) : Ev (fun k => spec_classicValue.f k (mk l)) (cvalP l) := by
  have hfirst : ∀ k, spec_classicValue.f k (mk l) = spec_classicValue.j0 k (mk l) (decide (l.head? = some 34)) := fun k => by
    unfold spec_classicValue.f
    cases l with
    | nil => rw [if_neg (by rw [mk_size]; simp)]; rfl
    | cons c l =>
      rw [if_pos (by rw [mk_size]; simp), if_pos (by rw [mk_size]; simp), bt_mk0]
      congr 1
      rw [Bool.eq_iff_iff]
      simp [← UInt8.toNat_inj]
      omega
  have hj1 : Ev (fun k => spec_classicValue.j1 k (mk l) (decide (l.head? = some 34)) (decide (l.getLast? = some 34 ∧ ¬ tails l.dropLast % 2 = 1))) (cvalP l) := by
    unfold cvalP
    by_cases hf : l.head? = some 34
    · rw [if_pos hf]
      have e0 : ∀ b, Ev (fun k => spec_classicValue.j2 k (mk l) true b false) (⟨#[]⟩, 2) := fun b => Ev.now 1 (fun k => by simp only [spec_classicValue.j2]; rfl)
      by_cases hg : l.getLast? = some 34 ∧ ¬ tails l.dropLast % 2 = 1
      · by_cases hz : 1 < l.length
        · rw [if_pos ⟨hg.1, hg.2, hz⟩]
          have he := escR_pair _ _ (escaped_is (l.drop 1).dropLast (by rw [List.length_dropLast, List.length_drop]; omega))
          refine Ev.step he 2 (fun k => ?_)
          simp only [spec_classicValue.j1, spec_classicValue.j2]
          have hd : decide (((mk l).size : Int) > 1) = true := decide_eq_true (by rw [mk_size]; omega)
          have hx : (mk l).extract 1 (wrap64 (((mk l).size : Int) - 1)).toNat = mk (l.drop 1).dropLast := by
            rw [mk_size, w64p _ (by omega) (by omega), mk_extract, Int.toNat_natCast, List.dropLast_eq_take, List.length_drop]
          rw [hx, decide_eq_true hf, decide_eq_true hg, hd, if_pos rfl, if_pos rfl, if_pos rfl, mk_size, w64p _ (by omega) (by omega), if_pos (by omega), if_pos (by omega)]
        · rw [if_neg (fun h => hz h.2.2)]
          refine Ev.step (e0 true) 1 (fun k => ?_)
          simp only [spec_classicValue.j1]
          have hd : decide (((mk l).size : Int) > 1) = false := decide_eq_false (by rw [mk_size]; omega)
          rw [decide_eq_true hf, decide_eq_true hg, hd, if_pos rfl, if_pos rfl]
      · rw [if_neg (fun h => hg ⟨h.1, h.2.1⟩)]
        refine Ev.step (e0 false) 1 (fun k => ?_)
        simp only [spec_classicValue.j1]
        rw [decide_eq_true hf, decide_eq_false hg, if_pos rfl, if_neg (by decide)]
    · rw [if_neg hf]
      by_cases hg : l.getLast? = some 34 ∧ ¬ tails l.dropLast % 2 = 1
      · rw [if_pos hg]
        refine Ev.now 2 (fun k => ?_)
        simp only [spec_classicValue.j1, spec_classicValue.j2]
        rw [decide_eq_false hf, decide_eq_true hg]
        rfl
      · rw [if_neg hg]
        have he := escR_pair _ _ (escaped_is l hl)
        refine Ev.step he 2 (fun k => ?_)
        simp only [spec_classicValue.j1, spec_classicValue.j2]
        rw [decide_eq_false hf, decide_eq_false hg, if_neg (by decide), if_neg (by decide), if_neg (by decide), if_neg (by decide)]
  have hj0 : Ev (fun k => spec_classicValue.j0 k (mk l) (decide (l.head? = some 34))) (cvalP l) := by
    rcases List.eq_nil_or_concat l with h | ⟨m, c, h⟩
    · refine Ev.step hj1 1 (fun k => ?_)
      simp only [spec_classicValue.j0]
      rw [if_neg (by rw [mk_size, h]; simp)]
      congr 1
      simp [h]
    · rw [List.concat_eq_append] at h
      have hlen : l.length = m.length + 1 := by rw [h]; simp
      have hb : bt (mk l) (m.length : Int) = (c.toNat : Int) := by rw [h]; exact bt_app m c [] _ rfl
      have hee := endsEscaped_is m c (by omega)
      rw [← h] at hee
      have e1 : l.getLast? = some 34 ↔ c = 34 := by rw [h]; simp
      have e2 : l.dropLast = m := by rw [h]; simp
      have hw : wrap64 (((mk l).size : Int) - 1) = (m.length : Int) := by rw [mk_size, hlen]; unfold wrap64; omega
      have st : ∀ k, spec_classicValue.j0 (k + 1) (mk l) (decide (l.head? = some 34)) = if (c.toNat : Int) = 34 then (spec_endsEscaped.f k (mk l)).bind fun t => spec_classicValue.j1 k (mk l) (decide (l.head? = some 34)) (!t) else spec_classicValue.j1 k (mk l) (decide (l.head? = some 34)) false := fun k => by
        simp only [spec_classicValue.j0]
        rw [hw, hb, if_pos (by rw [mk_size]; omega), if_pos (by omega), if_pos (by rw [mk_size]; omega)]
      by_cases hc : c = 34
      · have g : decide (l.getLast? = some 34 ∧ ¬ tails l.dropLast % 2 = 1) = !(decide (tails m % 2 = 1)) := by rw [e2, Bool.eq_iff_iff]; simp [e1.2 hc]
        rw [g] at hj1
        refine Ev.step (Ev.bind (G := fun k t => spec_classicValue.j1 k (mk l) (decide (l.head? = some 34)) (!t)) hee hj1) 1 (fun k => ?_)
        rw [st, if_pos (by rw [hc]; rfl)]
      · have g : decide (l.getLast? = some 34 ∧ ¬ tails l.dropLast % 2 = 1) = false := decide_eq_false (fun h => hc (e1.1 h.1))
        rw [g] at hj1
        refine Ev.step hj1 1 (fun k => ?_)
        rw [st, if_neg (fun e => hc (UInt8.toNat_inj.1 (by have : c.toNat = 34 := by omega
                                                           exact this)))]
  obtain ⟨K, hK⟩ := hj0
  exact ⟨K, fun k hk => (hfirst k).trans (hK k hk)⟩
/-! ### the reader's parts -/
/-- How long the operator at the head is. -/
def opLen (y : List UInt8) : Nat := if y.take 2 = [61, 126] ∨ y.take 2 = [33, 61] ∨ y.take 2 = [33, 126] then 2 else if y.head? = some 61 then 1 else 0
/-- Name, operator, value of a text; none: it is no matcher. -/
def partsP (l : List UInt8) : Option (List UInt8 × List UInt8 × List UInt8) :=
  let x := trimL l
  let n := nlen nmC x
  let y := trimL (x.drop n)
  if n = 0 then none else if opLen y = 0 then none else some (x.take n, y.take (opLen y), trim (y.drop (opLen y)))
def partsR (l : List UInt8) : List ByteArray := match partsP l with
  | none => []
  | some (a, b, c) => [mk l, mk a, mk b, mk c]
theorem parts_end (l : List UInt8) (hl : l.length ≤ 100000) (x3 x4 x5 m : Nat) (h3 : x3 ≤ x4) (h4 : x4 ≤ x5) (h5 : x5 + m ≤ l.length) :
    Ev (fun k => labels_zzMatcherParts.j7 k (mk l) x3 x4 x5 m) [mk l, mk ((l.drop x3).take (x4 - x3)), mk ((l.drop x5).take m), mk (trim (l.drop (x5 + m)))] := by
  have hw : wrap64 ((x5 : Int) + (m : Int)) = ((x5 + m : Nat) : Int) := by unfold wrap64; omega
  have hz : ((mk l).size : Int) = (l.length : Int) := by rw [mk_size]
  have hs := spn_le blk (l.drop (x5 + m))
  rw [List.length_drop] at hs
  refine Ev.step (G := fun k => labels_zzMatcherParts.l3 k (mk l) x3 x4 x5 m ((x5 + m : Nat) : Int) (l.length : Int)) ?_ 1 (fun k => by simp only [labels_zzMatcherParts.j7]; rw [hw, hz])
  refine go_ev (F := fun k i => labels_zzMatcherParts.l3 k (mk l) x3 x4 x5 m i (l.length : Int)) (spn blk (l.drop (x5 + m))) (x5 + m) (fun j h1 h2 k => ?_) ?_
  · have hj : j < l.length := by omega
    have hb : blk l[j] = true := by
      have := (spn_at blk (l.drop (x5 + m)) (j - (x5 + m)) (by rw [List.length_drop]; omega)).1 (by omega)
      rw [List.getElem_drop] at this
      simpa [show x5 + m + (j - (x5 + m)) = j by omega] using this
    simp only [labels_zzMatcherParts.l3]
    rw [if_pos (by omega), if_pos (by omega), if_pos (by omega), bt_mk l j hj, blank_is, hb, Option.bind_some, if_pos rfl, w64s j (by omega)]
  · generalize hA : x5 + m + spn blk (l.drop (x5 + m)) = A
    have hstop : ∀ (h : A < l.length), blk l[A] = false := fun h => by
      have := (spn_at blk (l.drop (x5 + m)) (A - (x5 + m)) (by rw [List.length_drop]; omega)).2 (by omega)
      rw [List.getElem_drop] at this
      simpa [show x5 + m + (A - (x5 + m)) = A by omega] using this
    have hdrop : trimL (l.drop (x5 + m)) = l.drop A := by unfold trimL; rw [← spn_drop, List.drop_drop, hA]
    have ht : trim (l.drop (x5 + m)) = trimR (l.drop A) := by unfold trim; rw [hdrop]
    rw [ht]
    have hA2 : A ≤ l.length := by omega
    refine Ev.step (G := fun k => labels_zzMatcherParts.l4 k (mk l) x3 x4 x5 m (A : Int) (l.length : Int)) ?_ 2 (fun k => ?_)
    · have hs2 := spn_le blk (l.drop A).reverse
      rw [List.length_reverse, List.length_drop] at hs2
      have e : l.length = (l.length - spn blk (l.drop A).reverse) + spn blk (l.drop A).reverse := by omega
      conv => arg 1; ext k; rw [e]
      generalize hB : l.length - spn blk (l.drop A).reverse = B
      have at_ : ∀ j (hj : j < l.length) (hAj : A ≤ j), (l.drop A).reverse[l.length - 1 - j]'(by rw [List.length_reverse, List.length_drop]; omega) = l[j] := fun j hj hAj => by
        rw [List.getElem_reverse, List.getElem_drop]
        congr 1
        rw [List.length_drop]
        omega
      refine back_ev (F := fun k i => labels_zzMatcherParts.l4 k (mk l) x3 x4 x5 m (A : Int) i) (spn blk (l.drop A).reverse) B (fun j h1 h2 k => ?_) ?_
      · have hb : blk (l[j - 1]'(by omega)) = true := by
          have := (spn_at blk (l.drop A).reverse (l.length - 1 - (j - 1)) (by rw [List.length_reverse, List.length_drop]; omega)).1 (by omega)
          rw [at_ (j - 1) (by omega) (by omega)] at this
          exact this
        simp only [labels_zzMatcherParts.l4]
        rw [if_pos (by omega), w64p j (by omega) (by omega), if_pos (by omega), if_pos (by omega), bt_mk l (j - 1) (by omega), blank_is, hb, Option.bind_some, if_pos rfl]
      · refine Ev.now 1 (fun k => ?_)
        have hres : ([mk l, (mk l).extract (x3 : Int).toNat (x4 : Int).toNat, (mk l).extract (x5 : Int).toNat (wrap64 ((x5 : Int) + (m : Int))).toNat, (mk l).extract (A : Int).toNat (B : Int).toNat] : List ByteArray) = [mk l, mk ((l.drop x3).take (x4 - x3)), mk ((l.drop x5).take m), mk (trimR (l.drop A))] := by
          rw [hw, mk_extract, mk_extract, mk_extract, trimR_take, List.length_drop]
          simp only [Int.toNat_natCast]
          have e1 : x5 + m - x5 = m := by omega
          have e2 : B - A = l.length - A - spn blk (l.drop A).reverse := by omega
          rw [e1, e2]
        have hok : ∀ o : Option (List ByteArray), (if (0 : Int) ≤ (x3 : Int) then (if (x3 : Int) ≤ (x4 : Int) then (if (x4 : Int) ≤ ((mk l).size : Int) then (if (0 : Int) ≤ (x5 : Int) then (if (x5 : Int) ≤ (wrap64 ((x5 : Int) + (m : Int))) then (if (wrap64 ((x5 : Int) + (m : Int))) ≤ ((mk l).size : Int) then (if (0 : Int) ≤ (A : Int) then (if (A : Int) ≤ (B : Int) then (if (B : Int) ≤ ((mk l).size : Int) then o else none) else none) else none) else none) else none) else none) else none) else none) else none) = o := fun o => by
          rw [hw, if_pos (by omega), if_pos (by omega), if_pos (by omega), if_pos (by omega), if_pos (by omega), if_pos (by omega), if_pos (by omega), if_pos (by omega), if_pos (by omega)]
        simp only [labels_zzMatcherParts.l4]
        by_cases hAB : A < B
        · have hb : blk (l[B - 1]'(by omega)) = false := by
            have := (spn_at blk (l.drop A).reverse (l.length - 1 - (B - 1)) (by rw [List.length_reverse, List.length_drop]; omega)).2 (by omega)
            rw [at_ (B - 1) (by omega) (by omega)] at this
            exact this
          rw [if_pos (by omega), w64p B (by omega) (by omega), if_pos (by omega), if_pos (by omega), bt_mk l (B - 1) (by omega), blank_is, hb, Option.bind_some, if_neg (by decide), hok, hres]
        · rw [if_neg (by omega), hok, hres]
    · simp only [labels_zzMatcherParts.l3, labels_zzMatcherParts.j9]
      by_cases h : A < l.length
      · rw [if_pos (by omega), if_pos (by omega), if_pos (by omega), bt_mk l A h, blank_is, hstop h, Option.bind_some, if_neg (by decide)]
      · rw [if_neg (by omega)]
theorem opLen_le (y : List UInt8) : opLen y ≤ y.length := by
  unfold opLen
  split
  · rename_i h
    have : (y.take 2).length = 2 := by rcases h with h | h | h <;> rw [h] <;> rfl
    rw [List.length_take] at this
    omega
  · split
    · rename_i h
      cases y with
      | nil => cases h
      | cons c y => simp
    · exact Nat.zero_le _
theorem take2_ne (y a : List UInt8) (h : y.length < 2) (ha : a.length = 2) : ¬ y.take 2 = a := fun e => by
  have := congrArg List.length e
  rw [List.length_take] at this
  omega
theorem op_is (l y : List UInt8) (hl : l.length ≤ 100000) (I J M n : Nat) (hJ : I + n = J) (hJM : J ≤ M) (hM : M ≤ l.length) (hY : l.drop M = y) :
    Ev (fun k => labels_zzMatcherParts.j5 k (mk l) (I : Int) (J : Int) (M : Int)) (if n = 0 then [] else if opLen y = 0 then [] else [mk l, mk ((l.drop I).take n), mk (y.take (opLen y)), mk (trim (l.drop (M + opLen y)))]) := by
  have ho := opLen_le y
  have hyl : y.length = l.length - M := by rw [← hY, List.length_drop]
  by_cases h0 : n = 0
  · rw [if_pos h0]
    refine Ev.now 1 (fun k => ?_)
    simp only [labels_zzMatcherParts.j5]
    rw [if_pos (by omega)]
  rw [if_neg h0]
  have hj7 : ∀ m, m = opLen y → m ≠ 0 → Ev (fun k => labels_zzMatcherParts.j7 k (mk l) (I : Int) (J : Int) (M : Int) (m : Int)) (if opLen y = 0 then [] else [mk l, mk ((l.drop I).take n), mk (y.take (opLen y)), mk (trim (l.drop (M + opLen y)))]) := fun m hm hm0 => by
    have := parts_end l hl I J M m (by omega) (by omega) (by omega)
    rw [← hm, if_neg hm0]
    rw [hY] at this
    have e : J - I = n := by omega
    rw [e] at this
    exact this
  have hj6 : ∀ b : Bool, b = decide (opLen y = 2) → Ev (fun k => labels_zzMatcherParts.j6 k (mk l) (I : Int) (J : Int) (M : Int) b) (if opLen y = 0 then [] else [mk l, mk ((l.drop I).take n), mk (y.take (opLen y)), mk (trim (l.drop (M + opLen y)))]) := fun b hb => by
    by_cases h2 : opLen y = 2
    · rw [hb, decide_eq_true h2]
      refine Ev.step (hj7 2 h2.symm (by omega)) 1 (fun k => ?_)
      simp only [labels_zzMatcherParts.j6]
      rfl
    · rw [hb, decide_eq_false h2]
      have hop : opLen y = if y.head? = some 61 then 1 else 0 := by
        unfold opLen at h2 ⊢
        split
        · rename_i h; rw [if_pos h] at h2; exact absurd rfl h2
        · rfl
      by_cases hh : y.head? = some 61
      · rw [if_pos hh] at hop
        refine Ev.step (hj7 1 hop.symm (by omega)) 1 (fun k => ?_)
        have hMl : M < l.length := by
          cases y with
          | nil => cases hh
          | cons c y => simp at hyl; omega
        have hb61 : bt (mk l) (M : Int) = 61 := by
          rw [bt_mk l M hMl]
          have : l[M] = 61 := by
            rw [← hY] at hh
            rw [List.head?_drop, List.getElem?_eq_getElem hMl] at hh
            exact Option.some.inj hh
          rw [this]
          rfl
        simp only [labels_zzMatcherParts.j6]
        rw [if_neg (by decide), if_pos (by rw [mk_size]; omega), if_pos (by omega), hb61, if_pos rfl]
        rfl
      · rw [if_neg hh] at hop
        rw [hop, if_pos rfl]
        refine Ev.now 1 (fun k => ?_)
        simp only [labels_zzMatcherParts.j6]
        rw [if_neg (by decide)]
        by_cases hMl : M < l.length
        · have hb61 : ¬ bt (mk l) (M : Int) = 61 := fun e => hh (by
            rw [bt_mk l M hMl] at e
            rw [← hY, List.head?_drop, List.getElem?_eq_getElem hMl]
            congr 1
            exact UInt8.toNat_inj.1 (by have : (l[M]).toNat = 61 := by omega
                                        exact this))
          rw [if_pos (by rw [mk_size]; omega), if_pos (by omega), if_neg hb61]
        · rw [if_neg (by rw [mk_size]; omega)]
  have w1 : wrap64 ((M : Int) + 1) = ((M + 1 : Nat) : Int) := w64s M (by omega)
  have w2 : wrap64 ((M : Int) + 2) = ((M + 2 : Nat) : Int) := by unfold wrap64; omega
  by_cases hlen : 2 ≤ y.length
  · have hext : ((mk l).extract (M : Int).toNat (wrap64 ((M : Int) + 2)).toNat).toList = y.take 2 := by
      rw [w2, mk_extract, mk_list, Int.toNat_natCast, Int.toNat_natCast, hY]
      congr 1
      omega
    have st : ∀ k, labels_zzMatcherParts.j5 (k + 1) (mk l) (I : Int) (J : Int) (M : Int) = if y.take 2 = [61, 126] then labels_zzMatcherParts.j6 k (mk l) (I : Int) (J : Int) (M : Int) true else if y.take 2 = [33, 61] then labels_zzMatcherParts.j6 k (mk l) (I : Int) (J : Int) (M : Int) true else labels_zzMatcherParts.j6 k (mk l) (I : Int) (J : Int) (M : Int) (y.take 2 == [33, 126]) := fun k => by
      simp only [labels_zzMatcherParts.j5]
      rw [if_neg (by omega), w1, if_pos (by rw [mk_size]; omega), if_pos (by omega), hext, w2, if_pos (by omega), if_pos (by rw [mk_size]; omega)]
    by_cases g1 : y.take 2 = [61, 126]
    · refine Ev.step (hj6 true (by unfold opLen; rw [if_pos (Or.inl g1)]; rfl)) 1 (fun k => ?_)
      rw [st, if_pos g1]
    · by_cases g2 : y.take 2 = [33, 61]
      · refine Ev.step (hj6 true (by unfold opLen; rw [if_pos (Or.inr (Or.inl g2))]; rfl)) 1 (fun k => ?_)
        rw [st, if_neg g1, if_pos g2]
      · refine Ev.step (hj6 (y.take 2 == [33, 126]) ?_) 1 (fun k => ?_)
        · unfold opLen
          by_cases g3 : y.take 2 = [33, 126]
          · rw [if_pos (Or.inr (Or.inr g3)), g3]; rfl
          · rw [if_neg (fun h => h.elim g1 (fun h => h.elim g2 g3))]
            have : (y.take 2 == [33, 126]) = false := by simpa using g3
            rw [this]
            split <;> rfl
        · rw [st, if_neg g1, if_neg g2]
  · have ho2 : ¬ opLen y = 2 := fun e => by omega
    refine Ev.step (hj6 false (decide_eq_false ho2).symm) 1 (fun k => ?_)
    simp only [labels_zzMatcherParts.j5]
    rw [if_neg (by omega), w1, if_neg (by rw [mk_size]; omega)]
theorem parts_is (l : List UInt8) (hl : l.length ≤ 100000) : Ev (fun k => labels_zzMatcherParts.f k (mk l)) (partsR l) := by
  unfold labels_zzMatcherParts.f
  have hi := spn_le blk l
  generalize hI : spn blk l = I at hi
  have hx : trimL l = l.drop I := by unfold trimL; rw [← spn_drop, hI]
  have hn := nlen_le nmC (l.drop I)
  rw [List.length_drop] at hn
  generalize hN : nlen nmC (l.drop I) = n at hn
  have hk := spn_le blk (l.drop (I + n))
  rw [List.length_drop] at hk
  generalize hK : spn blk (l.drop (I + n)) = kk at hk
  have hy : trimL ((l.drop I).drop n) = l.drop (I + n + kk) := by unfold trimL; rw [List.drop_drop, ← spn_drop, hK, List.drop_drop]
  have ho := opLen_le (l.drop (I + n + kk))
  rw [List.length_drop] at ho
  have hP : partsR l = if n = 0 then [] else if opLen (l.drop (I + n + kk)) = 0 then [] else [mk l, mk ((l.drop I).take n), mk ((l.drop (I + n + kk)).take (opLen (l.drop (I + n + kk)))), mk (trim (l.drop (I + n + kk + opLen (l.drop (I + n + kk)))))] := by
    unfold partsR partsP
    simp only [hx, hN, hy]
    by_cases h0 : n = 0
    · rw [if_pos h0, if_pos h0]
    · rw [if_neg h0, if_neg h0]
      by_cases h1 : opLen (l.drop (I + n + kk)) = 0
      · rw [if_pos h1, if_pos h1]
      · rw [if_neg h1, if_neg h1, List.drop_drop]
  rw [hP]
  clear hP
  -- leading white space
  refine go_ev (F := fun k i => labels_zzMatcherParts.l0 k (mk l) i) (r := _) I 0 (fun j _ hj k => ?_) ?_
  · have h : j < l.length := by omega
    have hb : blk l[j] = true := (spn_at blk l j h).1 (by omega)
    simp only [labels_zzMatcherParts.l0]
    rw [if_pos (by rw [mk_size]; omega), if_pos (by omega), bt_mk l j h, blank_is, hb, Option.bind_some, if_pos rfl, w64s j (by omega)]
  rw [Nat.zero_add]
  refine Ev.step (G := fun k => labels_zzMatcherParts.l1 k (mk l) (I : Int) (I : Int)) ?_ 2 (fun k => ?_)
  case refine_2 =>
    simp only [labels_zzMatcherParts.l0, labels_zzMatcherParts.j1]
    by_cases h : I < l.length
    · have hb : blk l[I] = false := (spn_at blk l I h).2 hI.symm
      rw [if_pos (by rw [mk_size]; omega), if_pos (by omega), bt_mk l I h, blank_is, hb, Option.bind_some, if_neg (by decide)]
    · rw [if_neg (by rw [mk_size]; omega)]
  -- the name
  have hname : ∀ j (hj : I + j < l.length), (j < n → nmC l[I + j] (j == 0) = true) ∧ (j = n → nmC l[I + j] (j == 0) = false) := fun j hj => by
    have := nlen_at nmC (l.drop I) j (by rw [List.length_drop]; omega)
    rw [hN, List.getElem_drop] at this
    exact this
  refine go_ev (F := fun k i => labels_zzMatcherParts.l1 k (mk l) (I : Int) i) n I (fun j h1 h2 k => ?_) ?_
  · have h : j < l.length := by omega
    obtain ⟨d, rfl⟩ : ∃ d, j = I + d := ⟨j - I, by omega⟩
    have hb := (hname d h).1 (by omega)
    have e : (((I + d : Nat) : Int) == (I : Int)) = (d == 0) := by rw [Bool.eq_iff_iff, beq_iff_eq, beq_iff_eq]; omega
    simp only [labels_zzMatcherParts.l1]
    rw [if_pos (by rw [mk_size]; omega), if_pos (by omega), bt_mk l _ h, e, nameByte_is, hb, Option.bind_some, if_pos rfl, w64s _ (by omega)]
  refine Ev.step (G := fun k => labels_zzMatcherParts.l2 k (mk l) (I : Int) ((I + n : Nat) : Int) ((I + n : Nat) : Int)) ?_ 2 (fun k => ?_)
  case refine_2 =>
    simp only [labels_zzMatcherParts.l1, labels_zzMatcherParts.j3]
    by_cases h : I + n < l.length
    · have hb := (hname n h).2 rfl
      have e : (((I + n : Nat) : Int) == (I : Int)) = (n == 0) := by rw [Bool.eq_iff_iff, beq_iff_eq, beq_iff_eq]; omega
      rw [if_pos (by rw [mk_size]; omega), if_pos (by omega), bt_mk l _ h, e, nameByte_is, hb, Option.bind_some, if_neg (by decide)]
    · rw [if_neg (by rw [mk_size]; omega)]
  -- white space behind it
  generalize hJ : I + n = J at *
  refine go_ev (F := fun k i => labels_zzMatcherParts.l2 k (mk l) (I : Int) (J : Int) i) kk J (fun j h1 h2 k => ?_) ?_
  · have h : j < l.length := by omega
    have hb : blk l[j] = true := by
      have := (spn_at blk (l.drop J) (j - J) (by rw [List.length_drop]; omega)).1 (by omega)
      rw [List.getElem_drop] at this
      simpa [show J + (j - J) = j by omega] using this
    simp only [labels_zzMatcherParts.l2]
    rw [if_pos (by rw [mk_size]; omega), if_pos (by omega), bt_mk l j h, blank_is, hb, Option.bind_some, if_pos rfl, w64s j (by omega)]
  refine Ev.step (G := fun k => labels_zzMatcherParts.j5 k (mk l) (I : Int) (J : Int) ((J + kk : Nat) : Int)) ?_ 1 (fun k => ?_)
  case refine_2 =>
    simp only [labels_zzMatcherParts.l2]
    by_cases h : J + kk < l.length
    · have hb : blk l[J + kk] = false := by
        have := (spn_at blk (l.drop J) kk (by rw [List.length_drop]; omega)).2 hK.symm
        rw [List.getElem_drop] at this
        exact this
      rw [if_pos (by rw [mk_size]; omega), if_pos (by omega), bt_mk l _ h, blank_is, hb, Option.bind_some, if_neg (by decide)]
    · rw [if_neg (by rw [mk_size]; omega)]
  exact op_is l _ hl I J (J + kk) n hJ (by omega) (by omega) rfl
end Go.Proofs.YtkngnoipipnioaaDoor.Q
namespace Go.Proofs.YtkngnoipipnioaaDoor.Q
open Go.RowKit Go.Proofs.YtkngnoipipnioaaDoorW.PrintWords Go.Proofs.YtkngnoipipnioaaDoorW.PrintLast Go.Proofs.YtkngnoipipnioaaDoorW.PrintMore
/-- The raw value, and whether a closing quote is awaited. -/
def rawL (v : List UInt8) : List UInt8 × Bool := if v.head? = some 34 then (v.drop 1, true) else (v, false)
def opKind (op : List UInt8) : Int := if op = [33, 61] then 1 else if op = [61, 126] then 2 else if op = [33, 126] then 3 else 0
/-- Type, name and value that the old reader takes of a text. -/
def clsP (l : List UInt8) : Option (Int × List UInt8 × List UInt8) :=
  match partsP l with
  | none => none
  | some (nm, op, v) => if Lib.validD (rawL v).1 = true then (valF false (rawL v).2 (rawL v).1 []).map fun x => (opKind op, nm, x) else none
/-! ### values -/
/-- Is a backslash open at the end? -/
def opn : Bool → List UInt8 → Bool
  | e, [] => e
  | true, _ :: l => opn false l
  | false, c :: l => opn (c == 92) l
theorem opn_snoc : ∀ (l : List UInt8) (e : Bool) (c : UInt8), opn e (l ++ [c]) = if opn e l then false else (c == 92)
  | [], e, c => by cases e <;> rfl
  | d :: l, true, c => by simp only [List.cons_append, opn]; exact opn_snoc l false c
  | d :: l, false, c => by simp only [List.cons_append, opn]; exact opn_snoc l _ c
theorem tails_snoc (l : List UInt8) (c : UInt8) : tails (l ++ [c]) = if c = 92 then tails l + 1 else 0 := by
  unfold tails
  rw [List.reverse_append]
  show spn _ (c :: l.reverse) = _
  rw [spn_cons]
  by_cases h : c = 92
  · rw [if_pos h, if_pos (by simp [h])]
  · rw [if_neg h, if_neg (by simp [h])]
theorem opn_tails (l : List UInt8) : opn false l = decide (tails l % 2 = 1) := by
  obtain ⟨m, rfl⟩ : ∃ m : List UInt8, l = m.reverse := ⟨l.reverse, by simp⟩
  induction m with
  | nil => rfl
  | cons c m ih =>
    rw [List.reverse_cons, opn_snoc, tails_snoc, ih]
    by_cases h : c = 92
    · rw [if_pos h]
      by_cases h2 : tails m.reverse % 2 = 1
      · rw [if_pos (by simpa using h2)]; symm; simp; omega
      · rw [if_neg (by simpa using h2)]; symm; simp [h]; omega
    · rw [if_neg h]
      by_cases h2 : tails m.reverse % 2 = 1
      · rw [if_pos (by simpa using h2)]; rfl
      · rw [if_neg (by simpa using h2)]; simpa using h
theorem valF_plain : ∀ (n : Nat) (l acc : List UInt8), l.length ≤ n → valF false false l acc = escP l acc
  | _, [], acc, _ => by simp [valF, escP]
  | 0, _ :: _, _, h => absurd h (by simp)
  | n + 1, c :: l, acc, h => by
    have hl : l.length ≤ n := by simpa using h
    by_cases h34 : c = 34
    · subst h34; rw [escP_34, valF, if_neg (by decide), if_pos rfl, if_pos (Or.inl rfl)]
    by_cases h92 : c = 92
    · subst h92
      cases l with
      | nil => simp [valF, escP]
      | cons d m =>
        have hm : m.length ≤ n := by simp at hl; omega
        rw [escP_92, valF, if_pos rfl, if_pos (by simp), valF]
        by_cases g1 : d = 110
        · rw [if_pos g1, if_pos g1]; exact valF_plain n m _ hm
        rw [if_neg g1, if_neg g1]
        by_cases g2 : d = 34
        · rw [if_pos (Or.inl g2), if_pos g2]; exact valF_plain n m _ hm
        by_cases g3 : d = 92
        · rw [if_pos (Or.inr g3), if_neg g2, if_pos g3]; exact valF_plain n m _ hm
        rw [if_neg (fun h => h.elim g2 g3), if_neg g2, if_neg g3, escP_other d m _ g2 g3, List.append_assoc]
        exact valF_plain n m _ hm
    · rw [escP_other c l acc h34 h92, valF, if_neg h92, if_neg h34]
      exact valF_plain n l _ hl
theorem valF_quoted : ∀ (n : Nat) (l acc : List UInt8), l.length ≤ n → opn false l = false → valF false true (l ++ [34]) acc = escP l acc
  | _, [], acc, _, _ => by
    rw [List.nil_append, valF, if_neg (by decide), if_pos rfl, if_neg (by simp)]
    rfl
  | 0, _ :: _, _, h, _ => absurd h (by simp)
  | n + 1, c :: l, acc, h, ho => by
    have hl : l.length ≤ n := by simpa using h
    by_cases h34 : c = 34
    · subst h34; rw [escP_34, List.cons_append, valF, if_neg (by decide), if_pos rfl, if_pos (Or.inr (by simp))]
    by_cases h92 : c = 92
    · subst h92
      cases l with
      | nil => exact absurd ho (by decide)
      | cons d m =>
        have hm : m.length ≤ n := by simp at hl; omega
        have hom : opn false m = false := ho
        rw [escP_92, List.cons_append, valF, if_pos rfl, if_pos (by simp), List.cons_append, valF]
        by_cases g1 : d = 110
        · rw [if_pos g1, if_pos g1]; exact valF_quoted n m _ hm hom
        rw [if_neg g1, if_neg g1]
        by_cases g2 : d = 34
        · rw [if_pos (Or.inl g2), if_pos g2]; exact valF_quoted n m _ hm hom
        by_cases g3 : d = 92
        · rw [if_pos (Or.inr g3), if_neg g2, if_pos g3]; exact valF_quoted n m _ hm hom
        rw [if_neg (fun h => h.elim g2 g3), if_neg g2, if_neg g3, escP_other d m _ g2 g3, List.append_assoc]
        exact valF_quoted n m _ hm hom
    · rw [escP_other c l acc h34 h92, List.cons_append, valF, if_neg h92, if_neg h34]
      have : opn false l = false := by
        have e : (c == 92) = false := by simpa using h92
        simpa [opn, e] using ho
      exact valF_quoted n l _ hl this
theorem open_says (z : Option (List UInt8)) : (((⟨#[]⟩ : ByteArray), (2 : Int)).2 = 1 → ∃ x, ((⟨#[]⟩ : ByteArray), (2 : Int)) = (mk x, 1) ∧ z = some x) ∧ (((⟨#[]⟩ : ByteArray), (2 : Int)).2 = 0 → z = none) :=
  ⟨fun e => absurd e (by decide), fun e => absurd e (by decide)⟩
/-- What the reference says of a value, and what the reader takes. -/
theorem cval_says (v : List UInt8) : ((cvalP v).2 = 1 → ∃ x, cvalP v = (mk x, 1) ∧ valF false (rawL v).2 (rawL v).1 [] = some x) ∧ ((cvalP v).2 = 0 → valF false (rawL v).2 (rawL v).1 [] = none) := by
  have fin : ∀ o : Option (List UInt8), ∀ z, z = o → ((escR o).2 = 1 → ∃ x, escR o = (mk x, 1) ∧ z = some x) ∧ ((escR o).2 = 0 → z = none) := fun o z hz => by
    subst hz
    cases z with
    | none => exact ⟨fun e => absurd e (by decide), fun _ => rfl⟩
    | some x => exact ⟨fun _ => ⟨_, rfl, rfl⟩, fun e => absurd (show (1 : Int) = 0 from e) (by decide)⟩
  unfold cvalP rawL
  by_cases hf : v.head? = some 34
  · rw [if_pos hf, if_pos hf]
    by_cases hg : v.getLast? = some 34 ∧ ¬ tails v.dropLast % 2 = 1 ∧ 1 < v.length
    · rw [if_pos hg]
      refine fin _ _ ?_
      obtain ⟨hg1, hg2, hg3⟩ := hg
      cases v with
      | nil => cases hf
      | cons c w =>
        obtain rfl : c = 34 := by simpa using hf
        rcases List.eq_nil_or_concat w with h | ⟨m, d, h⟩
        · rw [h] at hg3; simp at hg3
        · rw [List.concat_eq_append] at h
          subst h
          have hd : d = 34 := by rw [← List.cons_append, List.getLast?_append] at hg1; simpa using hg1
          subst hd
          have e1 : (34 :: (m ++ [34])).dropLast = 34 :: m := by rw [← List.cons_append, List.dropLast_concat]
          have e2 : tails (34 :: m) % 2 = tails m % 2 := by
            have h1 := opn_tails (34 :: m)
            have h2 := opn_tails m
            have h3 : opn false (34 :: m) = opn false m := rfl
            rw [h3, h2] at h1
            have := decide_eq_decide.1 h1
            omega
          rw [e1, e2] at hg2
          have ho : opn false m = false := by rw [opn_tails]; exact decide_eq_false hg2
          show valF false true (m ++ [34]) [] = _
          rw [valF_quoted _ m [] (Nat.le_refl _) ho]
          simp
    · rw [if_neg hg]
      exact ⟨fun e => absurd e (by decide), fun e => absurd e (by decide)⟩
  · rw [if_neg hf, if_neg hf]
    by_cases hg : v.getLast? = some 34 ∧ ¬ tails v.dropLast % 2 = 1
    · rw [if_pos hg]
      exact open_says _
    · rw [if_neg hg]
      exact fin _ _ (valF_plain _ v [] (Nat.le_refl _))
/-! ### white space at both ends -/
theorem trimR_split (l : List UInt8) : ∃ t, l = trimR l ++ t ∧ (∀ c ∈ t, blk c = true) := by
  refine ⟨(l.reverse.takeWhile blk).reverse, ?_, fun c hc => ?_⟩
  · unfold trimR
    rw [← List.reverse_append, List.takeWhile_append_dropWhile, List.reverse_reverse]
  · exact mem_takeWhile blk _ c (List.mem_reverse.1 hc)
where mem_takeWhile (p : UInt8 → Bool) : ∀ (l : List UInt8) (c : UInt8), c ∈ l.takeWhile p → p c = true
    | [], _, h => by simp at h
    | d :: l, c, h => by
      rw [List.takeWhile_cons] at h
      split at h
      · rename_i hd
        rcases List.mem_cons.1 h with e | e
        · rw [e]; exact hd
        · exact mem_takeWhile p l c e
      · simp at h
theorem trimL_split (l : List UInt8) : ∃ t, l = t ++ trimL l ∧ (∀ c ∈ t, blk c = true) :=
  ⟨l.takeWhile blk, (List.takeWhile_append_dropWhile).symm, fun c hc => trimR_split.mem_takeWhile blk l c hc⟩
theorem trimR_app (l t : List UInt8) (h : ∀ c ∈ t, blk c = true) : trimR (l ++ t) = trimR l := by
  obtain ⟨m, rfl⟩ : ∃ m : List UInt8, t = m.reverse := ⟨t.reverse, by simp⟩
  induction m with
  | nil => simp
  | cons c m ih =>
    rw [List.reverse_cons, ← List.append_assoc, trimR_snoc, if_pos (h c (by simp)), ih (fun d hd => h d (by simp at hd ⊢; exact Or.inl hd))]
theorem trimR_idem (l : List UInt8) : trimR (trimR l) = trimR l := by
  obtain ⟨t, e, h⟩ := trimR_split l
  have := trimR_app (trimR l) t h
  rw [← e] at this
  exact this.symm
theorem trimR_last (l : List UInt8) (a : List UInt8) (c : UInt8) (h : trimR l = a ++ [c]) : blk c = false := by
  have := trimR_idem l
  rw [h, trimR_snoc] at this
  by_cases hc : blk c = true
  · rw [if_pos hc] at this
    have := congrArg List.length this
    rw [List.length_append] at this
    have h2 : (trimR a).length ≤ a.length := by rw [trimR_take, List.length_take]; omega
    simp at this
    omega
  · simpa using hc
theorem trimR_fix (l : List UInt8) (h : ∀ a c, l = a ++ [c] → blk c = false) : trimR l = l := by
  rcases List.eq_nil_or_concat l with e | ⟨a, c, e⟩
  · rw [e]; rfl
  · rw [List.concat_eq_append] at e
    rw [e, trimR_snoc, if_neg (by rw [h a c e]; decide)]
theorem trimR_drop (l : List UInt8) (n : Nat) : (trimR l).drop n = trimR (l.drop n) := by
  obtain ⟨t, e, h⟩ := trimR_split l
  conv => rhs; rw [e, List.drop_append]
  rw [trimR_app _ _ (fun c hc => h c (List.mem_of_mem_drop hc))]
  symm
  refine trimR_fix _ (fun a c ha => ?_)
  by_cases hn : n ≤ (trimR l).length
  · refine trimR_last l ((trimR l).take n ++ a) c ?_
    rw [List.append_assoc, ← ha, List.take_append_drop]
  · rw [List.drop_eq_nil_of_le (by omega)] at ha
    exact absurd ha.symm (by simp)
theorem trimR_prefix (l p : List UInt8) (hp : ∀ c ∈ p, blk c = false) : p <+: trimR l ↔ p <+: l := by
  obtain ⟨t, e, h⟩ := trimR_split l
  constructor
  · intro hh
    rw [e]
    exact hh.trans (List.prefix_append _ _)
  · rintro ⟨q, hq⟩
    have hle : p.length ≤ (trimR l).length := by
      rcases Nat.lt_or_ge (trimR l).length p.length with hlt | hge
      · exfalso
        generalize trimR l = r at *
        have h1 : l[r.length]? = some (p[r.length]) := by rw [← hq, List.getElem?_append_left hlt, List.getElem?_eq_getElem hlt]
        rw [e, List.getElem?_append_right (Nat.le_refl _)] at h1
        have h2 : p[r.length] ∈ t := List.mem_of_getElem? h1
        have h3 := hp _ (List.getElem_mem hlt)
        rw [h _ h2] at h3
        cases h3
      · exact hge
    rw [e] at hq
    have := List.prefix_of_prefix_length_le (⟨q, hq⟩ : p <+: trimR l ++ t) (List.prefix_append (trimR l) t) hle
    exact this
theorem dropWhile_all (p : UInt8 → Bool) (l : List UInt8) (h : ∀ c ∈ l, p c = true) : l.dropWhile p = [] := by
  induction l with
  | nil => rfl
  | cons c l ih => rw [List.dropWhile_cons, if_pos (h c (by simp)), ih (fun d hd => h d (by simp [hd]))]
theorem trimL_trimR (l : List UInt8) : trimL (trimR l) = trimR (trimL l) := by
  obtain ⟨t, e, h⟩ := trimL_split l
  have e2 : (trimR l).drop t.length = trimR (trimL l) := by
    rw [trimR_drop]
    conv => lhs; rw [e]
    rw [List.drop_append_of_le_length (Nat.le_refl _), List.drop_length, List.nil_append]
  rw [← e2]
  by_cases hn : t.length < (trimR l).length
  · have h1 : (trimR l).take t.length = t := by
      have hp : trimR l <+: l := by obtain ⟨t2, e3, _⟩ := trimR_split l; exact ⟨t2, e3.symm⟩
      have := List.prefix_iff_eq_take.1 hp
      rw [this, List.take_take, Nat.min_eq_left (by omega)]
      conv => lhs; rw [e]
      rw [List.take_append_of_le_length (Nat.le_refl _), List.take_length]
    have h2 : trimR l = t ++ (trimR l).drop t.length := by conv => lhs; rw [← List.take_append_drop t.length (trimR l), h1]
    have h3 : ∀ c, ((trimR l).drop t.length).head? = some c → blk c = false := fun c hc => by
      rw [e2] at hc
      have hy : (trimL l).head? = some c := by
        obtain ⟨t2, e3, _⟩ := trimR_split (trimL l)
        rw [e3, List.head?_append, hc]
        rfl
      unfold trimL at hy
      cases hd : l.dropWhile blk with
      | nil => rw [hd] at hy; cases hy
      | cons a m =>
        rw [hd] at hy
        obtain rfl : a = c := by simpa using hy
        exact dropWhile_head blk l a m hd
    unfold trimL
    rw [h2]
    have h4 : ∀ (t m : List UInt8), (∀ c ∈ t, blk c = true) → (∀ c, m.head? = some c → blk c = false) → (t ++ m).dropWhile blk = m := fun t m ht hm => by
      induction t with
      | nil =>
        cases m with
        | nil => rfl
        | cons c m => rw [List.nil_append, List.dropWhile_cons, if_neg (by rw [hm c rfl]; decide)]
      | cons c t ih => rw [List.cons_append, List.dropWhile_cons, if_pos (ht c (by simp)), ih (fun d hd => ht d (by simp [hd]))]
    rw [h4 t _ h h3]
    simp
  · rw [List.drop_eq_nil_of_le (by omega)]
    have hall : ∀ c ∈ trimR l, blk c = true := fun c hc => by
      have hp : trimR l <+: t := by
        have h1 : trimR l <+: l := by obtain ⟨t2, e3, _⟩ := trimR_split l; exact ⟨t2, e3.symm⟩
        have h2 : t <+: l := ⟨trimL l, e.symm⟩
        exact List.prefix_of_prefix_length_le h1 h2 (by omega)
      exact h c (hp.subset hc)
    unfold trimL
    exact dropWhile_all blk _ hall
where dropWhile_head (p : UInt8 → Bool) : ∀ (l : List UInt8) (a : UInt8) (m : List UInt8), l.dropWhile p = a :: m → p a = false
    | [], _, _, h => by simp at h
    | d :: l, a, m, h => by
      rw [List.dropWhile_cons] at h
      split at h
      · exact dropWhile_head p l a m h
      · rename_i hd
        obtain ⟨rfl, rfl⟩ := List.cons.inj h
        simpa using hd
theorem trim_trimR (l : List UInt8) : trim (trimR l) = trim l := by
  unfold trim
  rw [trimL_trimR, trimR_idem]
end Go.Proofs.YtkngnoipipnioaaDoor.Q
namespace Go.Proofs.YtkngnoipipnioaaDoor.Q
open Go.RowKit Go.Proofs.YtkngnoipipnioaaDoorW.PrintWords Go.Proofs.YtkngnoipipnioaaDoorW.PrintLast Go.Proofs.YtkngnoipipnioaaDoorW.PrintMore
theorem exEv_bind {α β : Type} {P : β → Prop} {F : Nat → Option α} {a : α} {G : Nat → α → Option β} (h : Ev F a) (H : ∃ r, Ev (fun k => G k a) r ∧ P r) : ∃ r, Ev (fun k => (F k).bind (G k)) r ∧ P r := by
  obtain ⟨r, h1, h2⟩ := H
  exact ⟨r, Ev.bind h h1, h2⟩
theorem exEv_bindc {α β : Type} {P : β → Prop} {o : Option α} {a : α} {G : Nat → α → Option β} (h : o = some a) (H : ∃ r, Ev (fun k => G k a) r ∧ P r) : ∃ r, Ev (fun k => o.bind (G k)) r ∧ P r := by
  obtain ⟨r, h1, h2⟩ := H
  exact ⟨r, Ev.bindc h h1, h2⟩
theorem exEv_iteT {β : Type} {P : β → Prop} {c : Prop} [Decidable c] {F G : Nat → Option β} (h : c) (H : ∃ r, Ev F r ∧ P r) : ∃ r, Ev (fun k => if c then F k else G k) r ∧ P r := by
  obtain ⟨r, h1, h2⟩ := H
  exact ⟨r, Ev.iteT h h1, h2⟩
theorem exEv_iteF {β : Type} {P : β → Prop} {c : Prop} [Decidable c] {F G : Nat → Option β} (h : ¬ c) (H : ∃ r, Ev G r ∧ P r) : ∃ r, Ev (fun k => if c then F k else G k) r ∧ P r := by
  obtain ⟨r, h1, h2⟩ := H
  exact ⟨r, Ev.iteF h h1, h2⟩
theorem exEv_step {β : Type} {P : β → Prop} {F G : Nat → Option β} (n : Nat) (e : ∀ k, F (k + n) = G k) (H : ∃ r, Ev G r ∧ P r) : ∃ r, Ev F r ∧ P r := by
  obtain ⟨r, h1, h2⟩ := H
  exact ⟨r, Ev.step h1 n e, h2⟩
theorem classic_ends (l : List UInt8) (hl : l.length ≤ 10000000) : ∃ b, Ev (fun k => spec_Classic.f k (mk l)) b := by
  unfold spec_Classic.f
  rw [mk_size]
  have key : ∀ (n i : Nat), i + n = l.length → ∃ b, Ev (fun k => spec_Classic.l0 k (mk l) (l.length : Int) (i : Int)) b := by
    intro n
    induction n with
    | zero =>
      intro i hi
      obtain ⟨b, hb⟩ := settled_ends l hl
      have hv := svalid_is l
      cases hc : Lib.validD l
      · rw [hc] at hv
        refine ⟨true, Ev.step (Ev.bind (G := fun k t => if (t == false) = true then some true else (spec_Settled.f k (mk l)).bind fun t => some t) hv (by simpa using Ev.const true)) 1 (fun k => ?_)⟩
        simp only [spec_Classic.l0]
        rw [if_neg (by omega)]
      · rw [hc] at hv
        refine ⟨b, Ev.step (Ev.bind (G := fun k t => if (t == false) = true then some true else (spec_Settled.f k (mk l)).bind fun t => some t) hv ?_) 1 (fun k => ?_)⟩
        · simpa using hb
        · simp only [spec_Classic.l0]
          rw [if_neg (by omega)]
    | succ n ih =>
      intro i hi
      obtain ⟨b, hb⟩ := ih (i + 1) (by omega)
      have st : ∀ k, spec_Classic.l0 (k + 1) (mk l) (l.length : Int) (i : Int) = if bt (mk l) (i : Int) = 126 then some false else if bt (mk l) (i : Int) = 11 then some false else spec_Classic.l0 k (mk l) (l.length : Int) ((i + 1 : Nat) : Int) := fun k => by
        simp only [spec_Classic.l0]
        rw [if_pos (by omega), if_pos (by omega), if_pos (by rw [mk_size]; omega), w64s i (by omega)]
      by_cases h1 : bt (mk l) (i : Int) = 126
      · exact ⟨false, Ev.now 1 (fun k => by rw [st, if_pos h1])⟩
      by_cases h2 : bt (mk l) (i : Int) = 11
      · exact ⟨false, Ev.now 1 (fun k => by rw [st, if_neg h1, if_pos h2])⟩
      exact ⟨b, Ev.step hb 1 (fun k => by rw [st, if_neg h1, if_neg h2])⟩
  exact key l.length 0 (by omega)
theorem nlen_app (x t : List UInt8) (h : ∀ c ∈ t, blk c = true) : nlen nmL (x ++ t) = nlen nmL x := by
  have hb : ∀ b c, blk c = true → nmL c b = false := fun b c hc => by
    cases hn : nmL c b
    · rfl
    · have := nm_blk c b (by rw [nm_colon, hn]; rfl)
      rw [hc] at this
      cases this
  have hs : ∀ x : List UInt8, spn (fun d => nmL d false) (x ++ t) = spn (fun d => nmL d false) x := fun x => by
    induction x with
    | nil =>
      cases t with
      | nil => rfl
      | cons c t => rw [List.nil_append, spn_cons, if_neg (by rw [hb false c (h c (by simp))]; decide)]; rfl
    | cons c x ih => rw [List.cons_append, spn_cons, spn_cons, ih]
  cases x with
  | nil =>
    cases t with
    | nil => rfl
    | cons c t => simp only [List.nil_append, nlen]; rw [if_neg (by rw [hb true c (h c (by simp))]; decide)]
  | cons c x => simp only [List.cons_append, nlen]; rw [hs]
theorem spn_congr (p q : UInt8 → Bool) : ∀ (l : List UInt8), (∀ c, q c = true → p c = true) → (∀ c, (l.drop (spn q l)).head? = some c → p c = false) → spn p l = spn q l
  | [], _, _ => rfl
  | c :: l, h, hh => by
    rw [spn_cons, spn_cons]
    by_cases hq : q c = true
    · rw [if_pos hq, if_pos (h c hq)]
      rw [spn_cons, if_pos hq] at hh
      rw [spn_congr p q l h (fun d hd => hh d hd)]
    · rw [spn_cons, if_neg hq] at hh
      rw [if_neg hq, if_neg (by rw [hh c rfl]; decide)]
theorem nlen_colon (x : List UInt8) (h : (x.drop (nlen nmL x)).head? ≠ some 58) : nlen nmC x = nlen nmL x := by
  have hcol : ∀ b c, nmL c b = false → c ≠ 58 → nmC c b = false := fun b c h1 h2 => by
    rw [nm_colon, h1]
    simpa using h2
  cases x with
  | nil => rfl
  | cons c x =>
    simp only [nlen] at h ⊢
    by_cases hq : nmL c true = true
    · rw [if_pos hq] at h ⊢
      rw [if_pos (by rw [nm_colon, hq]; rfl), spn_congr (fun d => nmC d false) (fun d => nmL d false) x (fun d hd => by rw [nm_colon, hd]; rfl) (fun d hd => ?_)]
      rw [List.drop_succ_cons] at h
      have hx := (spn_at (fun d => nmL d false) x (spn (fun d => nmL d false) x))
      rw [List.head?_drop] at hd h
      have hlt : spn (fun d => nmL d false) x < x.length := (List.getElem?_eq_some_iff.1 hd).1
      have h3 := (hx hlt).2 rfl
      rw [List.getElem?_eq_getElem hlt] at hd h
      rw [Option.some.inj hd] at h3
      exact hcol false d h3 (fun e => h (by rw [Option.some.inj hd, e]))
    · rw [if_neg hq] at h ⊢
      have h1 : nmL c true = false := by simpa using hq
      rw [if_neg]
      rw [hcol true c h1 (fun e => h (by rw [e]; rfl))]
      decide
theorem nlen_asc (x : List UInt8) : ∀ c ∈ x.take (nlen nmC x), c.toNat < 128 := fun c hc => by
  obtain ⟨i, hi, rfl⟩ := List.getElem_of_mem hc
  rw [List.getElem_take]
  rw [List.length_take] at hi
  exact nm_asc _ _ ((nlen_at nmC x i (by omega)).1 (by omega))
/-- The text around the raw value is ASCII. -/
theorem parts_around (l nm op v : List UInt8) (h : partsP l = some (nm, op, v)) : Lib.validD (rawL v).1 = Lib.validD l := by
  unfold partsP at h
  simp only at h
  split at h
  · cases h
  split at h
  · cases h
  rename_i h0 h1
  have e := Option.some.inj h
  have e1 := (Prod.mk.inj e).1
  have e2 := (Prod.mk.inj (Prod.mk.inj e).2).1
  have e3 := (Prod.mk.inj (Prod.mk.inj e).2).2
  clear e h
  have ha : ∀ t : List UInt8, (∀ c ∈ t, blk c = true) → ∀ c ∈ t, c.toNat < 128 := fun t ht c hc => blk_asc c (ht c hc)
  have hop : ∀ y : List UInt8, ∀ c ∈ y.take (opLen y), c.toNat < 128 := fun y c hc => by
    unfold opLen at hc
    split at hc
    · rename_i g
      rcases g with g | g | g <;> (rw [g] at hc; simp at hc; rcases hc with e | e <;> (rw [e]; decide))
    · split at hc
      · rename_i g
        cases y with
        | nil => cases g
        | cons d y =>
          obtain rfl : d = 61 := by simpa using g
          simp at hc
          rw [hc]; decide
      · simp at hc
  obtain ⟨t1, g1, a1⟩ := trimL_split l
  obtain ⟨t2, g2, a2⟩ := trimL_split ((trimL l).drop (nlen nmC (trimL l)))
  generalize hy : trimL ((trimL l).drop (nlen nmC (trimL l))) = y at *
  obtain ⟨t3, g3, a3⟩ := trimL_split (y.drop (opLen y))
  obtain ⟨t4, g4, a4⟩ := trimR_split (trimL (y.drop (opLen y)))
  have hl : l = (t1 ++ (trimL l).take (nlen nmC (trimL l)) ++ t2 ++ y.take (opLen y) ++ t3) ++ v ++ t4 := by
    have h4 : trimL (y.drop (opLen y)) = v ++ t4 := by rw [← e3]; exact g4
    have h3 : y.drop (opLen y) = t3 ++ (v ++ t4) := by rw [← h4]; exact g3
    have h2 : (trimL l).drop (nlen nmC (trimL l)) = t2 ++ (y.take (opLen y) ++ (t3 ++ (v ++ t4))) := by rw [← h3, List.take_append_drop]; exact g2
    have h5 : trimL l = (trimL l).take (nlen nmC (trimL l)) ++ (t2 ++ (y.take (opLen y) ++ (t3 ++ (v ++ t4)))) := by rw [← h2, List.take_append_drop]
    conv => lhs; rw [g1, h5]
    simp only [List.append_assoc]
  have hA : ∀ c ∈ t1 ++ (trimL l).take (nlen nmC (trimL l)) ++ t2 ++ y.take (opLen y) ++ t3, c.toNat < 128 := fun c hc => by
    simp only [List.mem_append] at hc
    rcases hc with (((hc | hc) | hc) | hc) | hc
    · exact ha _ a1 c hc
    · exact nlen_asc _ c hc
    · exact ha _ a2 c hc
    · exact hop y c hc
    · exact ha _ a3 c hc
  have hv : Lib.validD l = Lib.validD v := by
    conv => lhs; rw [hl]
    exact valid_ends _ v t4 hA (ha _ a4)
  rw [hv]
  unfold rawL
  split
  · rename_i hq
    cases v with
    | nil => cases hq
    | cons c v =>
      obtain rfl : c = 34 := by simpa using hq
      exact (Lib.validD_cons 34 v (by decide)).symm
  · rfl
theorem notin_drop {l m : List UInt8} {c : UInt8} (h : c ∉ l) (hm : ∀ d ∈ m, d ∈ l) : c ∉ m := fun hc => h (hm c hc)
theorem mem_trimL {l : List UInt8} : ∀ d ∈ trimL l, d ∈ l := fun d hd => by
  obtain ⟨t, e, _⟩ := trimL_split l
  rw [e]
  exact List.mem_append_right _ hd
/-- What the reference says. -/
theorem classicM_says (l : List UInt8) (hl : l.length ≤ 100000) (h126 : (126 : UInt8) ∉ l) : ∃ r : Int × ByteArray × ByteArray × Int, Ev (fun k => spec_ClassicMatcher.f k (mk l)) r ∧ (r.2.2.2 = 1 → ∃ t nm v, clsP l = some (t, nm, v) ∧ r = (t, mk nm, mk v, 1)) ∧ (r.2.2.2 = 0 → clsP l = none) := by
  have opn_ : ∀ (F : Nat → Option (Int × ByteArray × ByteArray × Int)), Ev F (0, ⟨#[]⟩, ⟨#[]⟩, 2) → ∃ r : Int × ByteArray × ByteArray × Int, Ev F r ∧ (r.2.2.2 = 1 → ∃ t nm v, clsP l = some (t, nm, v) ∧ r = (t, mk nm, mk v, 1)) ∧ (r.2.2.2 = 0 → clsP l = none) := fun F hF =>
    ⟨_, hF, fun e => absurd (show (2 : Int) = 1 from e) (by decide), fun e => absurd (show (2 : Int) = 0 from e) (by decide)⟩
  have no_ : clsP l = none → ∀ (F : Nat → Option (Int × ByteArray × ByteArray × Int)), Ev F (0, ⟨#[]⟩, ⟨#[]⟩, 0) → ∃ r : Int × ByteArray × ByteArray × Int, Ev F r ∧ (r.2.2.2 = 1 → ∃ t nm v, clsP l = some (t, nm, v) ∧ r = (t, mk nm, mk v, 1)) ∧ (r.2.2.2 = 0 → clsP l = none) := fun hn F hF =>
    ⟨_, hF, fun e => absurd (show (0 : Int) = 1 from e) (by decide), fun _ => hn⟩
  unfold spec_ClassicMatcher.f
  obtain ⟨c, hc⟩ := classic_ends l (by omega)
  cases c
  · refine opn_ _ (Ev.bind hc ?_)
    simpa using Ev.const _
  have hx0 := trimL_split l
  generalize hX : trimL l = x at *
  have hxl : x.length ≤ l.length := by obtain ⟨t, e, _⟩ := hx0; rw [e]; simp
  have htr : (trimR x).length ≤ x.length := by rw [trimR_take, List.length_take]; omega
  have ht := trimmed_is l hl
  have etrim : trim l = trimR x := by unfold trim; rw [hX]
  rw [etrim] at ht
  have hn := nameEnd_is (trimR x) (by omega)
  have en : nlen nmL (trimR x) = nlen nmL x := by
    obtain ⟨t, e, h⟩ := trimR_split x
    conv => rhs; rw [e]
    exact (nlen_app _ t h).symm
  have hnl := nlen_le nmL (trimR x)
  rw [en] at hn hnl
  generalize hN : nlen nmL x = n at *
  have ht2 := trimmed_is ((trimR x).drop n) (by rw [List.length_drop]; omega)
  have e2 : trim ((trimR x).drop n) = trimR (trimL (x.drop n)) := by rw [trimR_drop, trim_trimR]; rfl
  rw [e2] at ht2
  generalize hY : trimL (x.drop n) = y at *
  have hyx : ∀ d ∈ y, d ∈ l := fun d hd => by
    rw [← hY] at hd
    have := List.mem_of_mem_drop (mem_trimL d hd)
    rw [← hX] at this
    exact mem_trimL d this
  have hyl : y.length ≤ 100000 := by
    obtain ⟨t, e, _⟩ := trimL_split (x.drop n)
    have := congrArg List.length e
    rw [hY, List.length_append, List.length_drop] at this
    omega
  have etake : (trimR x).take n = x.take n := by
    obtain ⟨t, e, _⟩ := trimR_split x
    conv => rhs; rw [e]
    rw [List.take_append_of_le_length hnl]
  have hpre : ∀ p : List UInt8, (∀ c ∈ p, blk c = false) → (p.isPrefixOf (trimR y) = p.isPrefixOf y) := fun p hp => by
    rw [Bool.eq_iff_iff, List.isPrefixOf_iff_prefix, List.isPrefixOf_iff_prefix]
    exact trimR_prefix y p hp
  have b58 : ∀ c ∈ ([58] : List UInt8), blk c = false := by decide
  have b61 : ∀ c ∈ ([61] : List UInt8), blk c = false := by decide
  have b33 : ∀ c ∈ ([33, 61] : List UInt8), blk c = false := by decide
  -- the reader's parts
  have hparts : y.head? ≠ some 58 → partsP l = if n = 0 then none else if opLen y = 0 then none else some (x.take n, y.take (opLen y), trim (y.drop (opLen y))) := fun h58 => by
    have h1 : nlen nmC x = n := by
      rw [← hN]
      refine nlen_colon x (fun e => h58 ?_)
      rw [hN] at e
      rw [← hY]
      unfold trimL
      cases hd : x.drop n with
      | nil => rw [hd] at e; cases e
      | cons d m =>
        rw [hd] at e
        obtain rfl : d = 58 := by simpa using e
        rfl
    unfold partsP
    simp only [hX, h1, hY]
  refine exEv_bind hc ?_
  refine exEv_iteT rfl ?_
  refine exEv_bind ht ?_
  refine exEv_bind hn ?_
  refine exEv_iteT (by omega) ?_
  refine exEv_iteT (by rw [mk_size]; omega) ?_
  rw [Int.toNat_natCast, mk_from, mk_upto, etake]
  refine exEv_bind ht2 ?_
  refine exEv_bindc (begins_is _ [58]) ?_
  rw [hpre [58] b58]
  have hj1 : y.head? ≠ some 58 → ∀ b : Bool, b = true ∨ b = false → True := fun _ _ _ => trivial
  have open0 : ∃ r : Int × ByteArray × ByteArray × Int, Ev (fun k => spec_ClassicMatcher.j0 k (mk l) (mk (trimR y)) (n : Int) (mk (x.take n)) true) r ∧ (r.2.2.2 = 1 → ∃ t nm v, clsP l = some (t, nm, v) ∧ r = (t, mk nm, mk v, 1)) ∧ (r.2.2.2 = 0 → clsP l = none) :=
    opn_ _ (Ev.now 1 (fun k => by simp only [spec_ClassicMatcher.j0]; rfl))
  by_cases h58 : y.head? = some 58
  · refine exEv_iteT ?_ open0
    cases y with
    | nil => cases h58
    | cons d y =>
      obtain rfl : d = 58 := by simpa using h58
      simp [List.isPrefixOf]
  · have e58 : ¬ (([58] : List UInt8).isPrefixOf y = true) := fun e => h58 (by
      cases y with
      | nil => simp [List.isPrefixOf] at e
      | cons d y =>
        have : 58 = d := by simpa [List.isPrefixOf] using e
        rw [← this]
        rfl)
    refine exEv_iteF e58 ?_
    have hP := hparts h58
    have fin2 : ∀ m : Nat, opLen y = m → m ≠ 0 → n ≠ 0 → ∀ kd : Int, kd = opKind (y.take m) → 0 ≤ kd → ∃ r : Int × ByteArray × ByteArray × Int, Ev (fun k => spec_ClassicMatcher.j1 k (mk l) (mk (trimR y)) (n : Int) (mk (x.take n)) kd (m : Int)) r ∧ (r.2.2.2 = 1 → ∃ t nm v, clsP l = some (t, nm, v) ∧ r = (t, mk nm, mk v, 1)) ∧ (r.2.2.2 = 0 → clsP l = none) := fun m hm hm0 hn0 kd hkd hkd0 => by
      rw [if_neg hn0, hm, if_neg hm0] at hP
      have hv := svalid_is l
      have har := parts_around l _ _ _ hP
      refine exEv_step (G := fun k => (spec_Valid.f k (mk l)).bind fun t => spec_ClassicMatcher.j2 k (mk (trimR y)) (mk (x.take n)) kd (m : Int) (!t)) 1 (fun k => by simp only [spec_ClassicMatcher.j1]; rw [if_neg (by omega), if_neg (by omega)]) ?_
      refine exEv_bind hv ?_
      cases hval : Lib.validD l
      · refine no_ ?_ _ (Ev.now 1 (fun k => by simp only [spec_ClassicMatcher.j2]; rfl))
        unfold clsP
        rw [hP]
        simp only [har, hval]
        rfl
      · have hml : m ≤ (trimR y).length := by
          have hop := opLen_le y
          have : y.take m <+: trimR y := (trimR_prefix y _ (fun c hc => by
            rw [← hm] at hc
            unfold opLen at hc
            split at hc
            · rename_i g
              rcases g with g | g | g <;> (rw [g] at hc; simp at hc; rcases hc with e | e <;> (rw [e]; decide))
            · split at hc
              · rename_i g
                cases y with
                | nil => cases g
                | cons d y =>
                  obtain rfl : d = 61 := by simpa using g
                  simp at hc
                  rw [hc]; decide
              · simp at hc)).2 (List.take_prefix m y)
          have h2 := this.length_le
          rw [List.length_take] at h2
          omega
        have htl : (trimR y).length ≤ y.length := by rw [trimR_take, List.length_take]; omega
        have hval2 := trimmed_is ((trimR y).drop m) (by rw [List.length_drop]; omega)
        have e3 : trim ((trimR y).drop m) = trim (y.drop m) := by rw [trimR_drop, trim_trimR]
        rw [e3] at hval2
        refine exEv_step (G := fun k => (spec_trimmed.f k (mk ((trimR y).drop m))).bind fun t195 => ((spec_classicValue.f k t195).bind fun bt196 => (if bt196.2 = 1 then (some (kd, mk (x.take n), bt196.1, 1)) else (some (0, (⟨#[]⟩ : ByteArray), (⟨#[]⟩ : ByteArray), bt196.2))))) 1 (fun k => by
          simp only [spec_ClassicMatcher.j2]
          rw [if_neg (by decide), if_pos (by omega), if_pos (by rw [mk_size]; omega), Int.toNat_natCast, mk_from]) ?_
        refine exEv_bind hval2 ?_
        have hcv := classicValue_is (trim (y.drop m)) (by
          unfold trim
          obtain ⟨t, e, _⟩ := trimL_split (y.drop m)
          have h2 := congrArg List.length e
          rw [List.length_append, List.length_drop] at h2
          rw [trimR_take, List.length_take]
          omega)
        refine exEv_bind hcv ?_
        have hcs := cval_says (trim (y.drop m))
        have hcl : clsP l = (valF false (rawL (trim (y.drop m))).2 (rawL (trim (y.drop m))).1 []).map fun z => (kd, x.take n, z) := by
          unfold clsP
          rw [hP]
          simp only [har, hval, if_true, hkd]
        by_cases g1 : (cvalP (trim (y.drop m))).2 = 1
        · refine exEv_iteT g1 ?_
          obtain ⟨z, hz1, hz2⟩ := hcs.1 g1
          refine ⟨_, Ev.const _, fun _ => ⟨kd, x.take n, z, ?_, ?_⟩, fun e => absurd (show (1 : Int) = 0 from e) (by decide)⟩
          · rw [hcl, hz2]; rfl
          · rw [hz1]
        · refine exEv_iteF g1 ?_
          refine ⟨_, Ev.const _, fun e => absurd e g1, fun e => ?_⟩
          rw [hcl, hcs.2 e]
          rfl
    -- the operator
    have h126y : (126 : UInt8) ∉ y := fun h => h126 (hyx _ h)
    have hno : n = 0 ∨ opLen y = 0 → clsP l = none := fun h => by
      unfold clsP
      rw [hP]
      rcases h with h | h
      · rw [if_pos h]
      · by_cases h0 : n = 0
        · rw [if_pos h0]
        · rw [if_neg h0, if_pos h]
    have j1none : ∀ kd m : Int, (n = 0 ∨ kd < 0) → clsP l = none → ∃ r : Int × ByteArray × ByteArray × Int, Ev (fun k => spec_ClassicMatcher.j1 k (mk l) (mk (trimR y)) (n : Int) (mk (x.take n)) kd m) r ∧ (r.2.2.2 = 1 → ∃ t nm v, clsP l = some (t, nm, v) ∧ r = (t, mk nm, mk v, 1)) ∧ (r.2.2.2 = 0 → clsP l = none) := fun kd m h hcl =>
      no_ hcl _ (Ev.now 2 (fun k => by
        simp only [spec_ClassicMatcher.j1, spec_ClassicMatcher.j2]
        rcases h with h | h
        · rw [if_pos (by omega)]; rfl
        · by_cases h0 : (n : Int) = 0
          · rw [if_pos h0]; rfl
          · rw [if_neg h0, if_pos h]; rfl))
    have j0f : ∃ r : Int × ByteArray × ByteArray × Int, Ev (fun k => spec_ClassicMatcher.j0 k (mk l) (mk (trimR y)) (n : Int) (mk (x.take n)) false) r ∧ (r.2.2.2 = 1 → ∃ t nm v, clsP l = some (t, nm, v) ∧ r = (t, mk nm, mk v, 1)) ∧ (r.2.2.2 = 0 → clsP l = none) := by
      refine exEv_step (G := fun k => (spec_Begins.f (mk (trimR y)) (mk [33, 61])).bind fun t192 => (if t192 = true then (spec_ClassicMatcher.j1 k (mk l) (mk (trimR y)) (n : Int) (mk (x.take n)) 1 2) else ((spec_Begins.f (mk (trimR y)) (mk [61])).bind fun t193 => (if t193 = true then (spec_ClassicMatcher.j1 k (mk l) (mk (trimR y)) (n : Int) (mk (x.take n)) 0 1) else (spec_ClassicMatcher.j1 k (mk l) (mk (trimR y)) (n : Int) (mk (x.take n)) (-1) 1))))) 1 (fun k => by simp only [spec_ClassicMatcher.j0]; rfl) ?_
      refine exEv_bindc (begins_is _ [33, 61]) ?_
      rw [hpre [33, 61] b33]
      have et2 : ([33, 61] : List UInt8).isPrefixOf y = true ↔ y.take 2 = [33, 61] := by
        rw [List.isPrefixOf_iff_prefix, List.prefix_iff_eq_take]
        exact ⟨fun e => e.symm, fun e => e.symm⟩
      have et1 : ([61] : List UInt8).isPrefixOf y = true ↔ y.head? = some 61 := by
        cases y with
        | nil => simp [List.isPrefixOf]
        | cons d y => simp [List.isPrefixOf]; exact ⟨fun e => e.symm, fun e => e.symm⟩
      have ntil : ∀ a : UInt8, ¬ y.take 2 = [a, 126] := fun a e => h126y (List.mem_of_mem_take (i := 2) (by rw [e]; simp))
      by_cases g1 : y.take 2 = [33, 61]
      · have ho : opLen y = 2 := by unfold opLen; rw [if_pos (Or.inr (Or.inl g1))]
        refine exEv_iteT (et2.2 g1) ?_
        by_cases h0 : n = 0
        · exact j1none 1 2 (Or.inl h0) (hno (Or.inl h0))
        · exact fin2 2 ho (by omega) h0 1 (by rw [g1]; rfl) (by omega)
      · refine exEv_iteF (fun e => g1 (et2.1 e)) ?_
        refine exEv_bindc (begins_is _ [61]) ?_
        rw [hpre [61] b61]
        have ho : opLen y = if y.head? = some 61 then 1 else 0 := by
          unfold opLen
          rw [if_neg (fun h => h.elim (ntil 61) (fun h => h.elim g1 (ntil 33)))]
        by_cases g2 : y.head? = some 61
        · rw [if_pos g2] at ho
          refine exEv_iteT (et1.2 g2) ?_
          by_cases h0 : n = 0
          · exact j1none 0 1 (Or.inl h0) (hno (Or.inl h0))
          · refine fin2 1 ho (by omega) h0 0 ?_ (by omega)
            cases y with
            | nil => cases g2
            | cons d y =>
              obtain rfl : d = 61 := by simpa using g2
              rfl
        · rw [if_neg g2] at ho
          refine exEv_iteF (fun e => g2 (et1.1 e)) ?_
          exact j1none (-1) 1 (Or.inr (by omega)) (hno (Or.inr ho))
    by_cases h0 : n = 0
    · refine exEv_iteT (by omega) ?_
      refine exEv_bindc (begins_is l [58]) ?_
      cases ([58] : List UInt8).isPrefixOf l
      · exact j0f
      · exact open0
    · exact exEv_iteF (by omega) j0f
end Go.Proofs.YtkngnoipipnioaaDoor.Q
