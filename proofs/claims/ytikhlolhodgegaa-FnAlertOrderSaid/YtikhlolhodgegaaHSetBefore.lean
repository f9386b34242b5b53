/- The order of sets in the documentation's words, and what impl.SetBefore returns. No condition beyond the lengths named. -/
import Derived.Test.YtikhlolhodgegaaHBefore
set_option linter.unusedVariables false
set_option linter.unusedSimpArgs false
namespace Go.Proofs.Ytikhlolhodgegaa.Q
open Go.RowKit Go.Proofs.YtikhlolhodgegaaW.PrintWords Go.Proofs.YtikhlolhodgegaaW.PrintLast Go.Proofs.YtikhlolhodgegaaW.PrintMore
attribute [local go_sem] max2_int min2_int max_two min_two max_three min_three max_four min_four
def atN (n : List UInt8) (q : S59) : Bool := nm q == n
def lessL : List S59 → List S59 → Bool
  | p :: X, q :: Y => if p.f0.toList = q.f0.toList then (if p.f1.toList = q.f1.toList then lessL X Y else Op.bytesLess p.f1.toList q.f1.toList) else Op.bytesLess q.f0.toList p.f0.toList
  | _, _ => false
def stepV (a b : ByteArray) : Option Bool := if a.toList = b.toList then none else some (Op.bytesLess a.toList b.toList)
def stepN (X Y : List S59) (n : List UInt8) : Option Bool :=
  match X.find? (atN n), Y.find? (atN n) with
  | none, _ => some true
  | some _, none => some false
  | some a, some b => stepV a.f1 b.f1
def stepD (D1 D2 : DataW Unit) (s : ByteArray) : Option Bool := if hasD D1 s = false then some true else if hasD D2 s = false then some false else if Op.bytesLess (valD D1 s).toList (valD D2 s).toList = true then some true else if strGt (valD D1 s) (valD D2 s) = true then some false else none
theorem befB_is (D1 D2 : DataW Unit) (ns : List ByteArray) : befB D1 D2 ns = (ns.findSome? (stepD D1 D2)).getD false := by
  induction ns with
  | nil => rfl
  | cons s r ih =>
    rw [List.findSome?_cons, befB]
    unfold stepD
    split
    · rfl
    split
    · rfl
    split
    · rfl
    split
    · rfl
    · exact ih
theorem stepV_is (a b : ByteArray) : (if Op.bytesLess a.toList b.toList = true then some true else if strGt a b = true then some false else none) = stepV a b := by
  unfold stepV strGt
  by_cases h : a.toList = b.toList
  · have e : Op.bytesLess b.toList b.toList = false := by rw [bless_eqS]; simp [List.lt_irrefl]
    rw [h, if_pos rfl, e]
    simp
  · rw [if_neg h]
    cases hb : Op.bytesLess a.toList b.toList
    · simp [h]
    · rfl
theorem has_is (a : List S26) (n : List UInt8) : hasD (mset a) (byB n) = ((setGo (a.map conv) []).find? (atN n)).isSome := by
  unfold hasD
  rw [mset_is, Maps.has_eq, List.any_map]
  refine Bool.eq_iff_iff.2 ?_
  rw [List.any_eq_true, List.find?_isSome]
  constructor
  · rintro ⟨q, hq, h⟩
    refine ⟨q, hq, ?_⟩
    have : (nm q == (byB n).data.toList) = true := h
    simpa [atN, byB] using this
  · rintro ⟨q, hq, h⟩
    refine ⟨q, hq, ?_⟩
    show (nm q == (byB n).data.toList) = true
    simpa [atN, byB] using h
theorem val_at (a : List S26) (n : List UInt8) (q : S59) (h : (setGo (a.map conv) []).find? (atN n) = some q) : valD (mset a) (byB n) = q.f1 := by
  have hq := List.mem_of_find?_eq_some h
  have hn : nm q = n := by simpa [atN] using List.find?_some h
  rw [← hn, byB_nm, val_is a q hq]
theorem stepD_is (a b : List S26) (n : List UInt8) : stepD (mset a) (mset b) (byB n) = stepN (setGo (a.map conv) []) (setGo (b.map conv) []) n := by
  unfold stepD stepN
  rw [has_is, has_is]
  cases h1 : (setGo (a.map conv) []).find? (atN n) with
  | none => rfl
  | some p =>
    cases h2 : (setGo (b.map conv) []).find? (atN n) with
    | none => rfl
    | some q =>
      rw [val_at a n p h1, val_at b n q h2]
      exact stepV_is p.f1 q.f1
theorem le_tot (a b : List UInt8) : (decide (a ≤ b) || decide (b ≤ a)) = true := by
  rcases lt_triS a b with h | h | h
  · simp [List.le_of_lt h]
  · simp [h]
  · simp [List.le_of_lt h]
theorem srtL_pw (l : List (List UInt8)) : (srtL l).Pairwise (· ≤ ·) :=
  (List.pairwise_mergeSort (le := fun x y => decide (x ≤ y)) (fun a b c h1 h2 => by simp only [decide_eq_true_eq] at *; exact List.le_trans h1 h2) le_tot l).imp (fun h => by simpa using h)
theorem srtL_mem (l : List (List UInt8)) (n : List UInt8) : n ∈ srtL l ↔ n ∈ l := (List.mergeSort_perm l _).mem_iff
theorem fs_some {β : Type} (f : List UInt8 → Option β) : ∀ l : List (List UInt8), l.Pairwise (· ≤ ·) → ∀ r, l.findSome? f = some r ↔ ∃ x ∈ l, f x = some r ∧ ∀ y ∈ l, y < x → f y = none
  | [], _, r => by simp
  | a :: l, h, r => by
    have h' := List.pairwise_cons.1 h
    rw [List.findSome?_cons]
    cases hf : f a with
    | some r' =>
      constructor
      · intro e
        obtain rfl := Option.some.inj e
        exact ⟨a, by simp, hf, fun y hy hlt => by
          rcases List.mem_cons.1 hy with hy | hy
          · rw [hy] at hlt; exact absurd hlt (List.lt_irrefl _)
          · exact absurd hlt (List.not_lt.2 (h'.1 y hy))⟩
      · rintro ⟨x, hx, hfx, hall⟩
        rcases lt_triS a x with hlt | he | hlt
        · have := hall a (by simp) hlt
          rw [hf] at this; cases this
        · rw [← he, hf] at hfx; exact hfx
        · rcases List.mem_cons.1 hx with hx | hx
          · rw [hx] at hlt; exact absurd hlt (List.lt_irrefl _)
          · exact absurd hlt (List.not_lt.2 (h'.1 x hx))
    | none =>
      show List.findSome? f l = some r ↔ _
      rw [fs_some f l h'.2 r]
      constructor
      · rintro ⟨x, hx, hfx, hall⟩
        exact ⟨x, List.mem_cons_of_mem _ hx, hfx, fun y hy hlt => by
          rcases List.mem_cons.1 hy with hy | hy
          · rw [hy]; exact hf
          · exact hall y hy hlt⟩
      · rintro ⟨x, hx, hfx, hall⟩
        rcases List.mem_cons.1 hx with hx | hx
        · rw [hx, hf] at hfx; cases hfx
        · exact ⟨x, hx, hfx, fun y hy => hall y (List.mem_cons_of_mem _ hy)⟩
theorem fs_det {β : Type} (f : List UInt8 → Option β) (l m : List (List UInt8)) (hl : l.Pairwise (· ≤ ·)) (hm : m.Pairwise (· ≤ ·)) (h : ∀ x, x ∈ l ↔ x ∈ m) : l.findSome? f = m.findSome? f := by
  cases hr : m.findSome? f with
  | none =>
    rw [List.findSome?_eq_none_iff] at hr ⊢
    exact fun x hx => hr x ((h x).1 hx)
  | some r =>
    rw [fs_some f m hm] at hr
    rw [fs_some f l hl]
    obtain ⟨x, hx, hfx, hall⟩ := hr
    exact ⟨x, (h x).2 hx, hfx, fun y hy => hall y ((h y).1 hy)⟩
theorem find_none {X : List S59} {n : List UInt8} (h : ∀ q ∈ X, nm q ≠ n) : X.find? (atN n) = none := List.find?_eq_none.2 fun q hq he => h q hq (by simpa [atN] using he)
theorem find_tail {p : S59} {X : List S59} {n : List UInt8} (h : nm p ≠ n) : (p :: X).find? (atN n) = X.find? (atN n) := by
  rw [List.find?_cons_of_neg]
  simpa [atN] using h
theorem find_head (p : S59) (X : List S59) : (p :: X).find? (atN (nm p)) = some p := by
  rw [List.find?_cons_of_pos]
  simp [atN]
theorem less_fs : ∀ (X Y : List S59) (f : List UInt8 → Option Bool), X.length = Y.length → SortedP X → SortedP Y → (∀ n, n ∈ X.map nm ∨ n ∈ Y.map nm → f n = stepN X Y n) →
    ∀ m : List (List UInt8), m.Pairwise (· ≤ ·) → (∀ n, n ∈ m ↔ n ∈ X.map nm ∨ n ∈ Y.map nm) → (m.findSome? f).getD false = lessL X Y
  | [], [], f, _, _, _, _, m, _, hmem => by
    have : m = [] := List.eq_nil_iff_forall_not_mem.2 fun n hn => by
      have := (hmem n).1 hn
      simp at this
    rw [this]
    rfl
  | [], _ :: _, _, hl, _, _, _, _, _, _ => by simp at hl
  | _ :: _, [], _, hl, _, _, _, _, _, _ => by simp at hl
  | p :: X, q :: Y, f, hl, hX, hY, hf, m, hm, hmem => by
    have hX' := List.pairwise_cons.1 hX
    have hY' := List.pairwise_cons.1 hY
    rcases lt_triS (nm p) (nm q) with h | h | h
    · have hnot : ∀ y ∈ q :: Y, nm y ≠ nm p := fun y hy e => by
        rcases List.mem_cons.1 hy with hy | hy
        · rw [← e, hy] at h; exact List.lt_irrefl _ h
        · have := lt_trS h (hY'.1 y hy)
          rw [e] at this; exact List.lt_irrefl _ this
      have hge : ∀ n, n ∈ srtL (X.map nm ++ (q :: Y).map nm) → nm p ≤ n := fun n hn => by
        rw [srtL_mem] at hn
        rcases List.mem_append.1 hn with hn | hn
        · obtain ⟨x, hx, rfl⟩ := List.mem_map.1 hn
          exact List.le_of_lt (hX'.1 x hx)
        · obtain ⟨y, hy, rfl⟩ := List.mem_map.1 hn
          rcases List.mem_cons.1 hy with hy | hy
          · rw [hy]; exact List.le_of_lt h
          · exact List.le_of_lt (lt_trS h (hY'.1 y hy))
      rw [fs_det f m (nm p :: srtL (X.map nm ++ (q :: Y).map nm)) hm (List.pairwise_cons.2 ⟨hge, srtL_pw _⟩) (fun n => by
        rw [hmem n, List.mem_cons, srtL_mem, List.mem_append, List.map_cons, List.mem_cons]
        constructor
        · rintro ((h | h) | h)
          · exact .inl h
          · exact .inr (.inl h)
          · exact .inr (.inr h)
        · rintro (h | h | h)
          · exact .inl (.inl h)
          · exact .inl (.inr h)
          · exact .inr h), List.findSome?_cons, hf (nm p) (.inl (by simp))]
      have e : stepN (p :: X) (q :: Y) (nm p) = some false := by
        unfold stepN
        rw [find_head, find_none hnot]
      rw [e]
      show false = lessL (p :: X) (q :: Y)
      rw [lessL, if_neg (fun e => by rw [toL, toL] at e; have e' : nm p = nm q := e; rw [e'] at h; exact List.lt_irrefl _ h), bless_eqS, toL, toL]
      have : ¬ nm q < nm p := fun h2 => List.lt_irrefl _ (lt_trS h h2)
      exact (decide_eq_false this).symm
    · have hp : ∀ x ∈ X, nm p < nm x := hX'.1
      have hq : ∀ y ∈ Y, nm p < nm y := fun y hy => by rw [h]; exact hY'.1 y hy
      have hgt : ∀ n, n ∈ X.map nm ∨ n ∈ Y.map nm → nm p < n := fun n hn => by
        rcases hn with hn | hn
        · obtain ⟨x, hx, rfl⟩ := List.mem_map.1 hn
          exact hp x hx
        · obtain ⟨y, hy, rfl⟩ := List.mem_map.1 hn
          exact hq y hy
      have hge : ∀ n, n ∈ srtL (X.map nm ++ Y.map nm) → nm p ≤ n := fun n hn => by
        rw [srtL_mem, List.mem_append] at hn
        exact List.le_of_lt (hgt n hn)
      rw [fs_det f m (nm p :: srtL (X.map nm ++ Y.map nm)) hm (List.pairwise_cons.2 ⟨hge, srtL_pw _⟩) (fun n => by
        rw [hmem n, List.mem_cons, srtL_mem, List.mem_append, List.map_cons, List.mem_cons, List.map_cons, List.mem_cons]
        constructor
        · rintro ((h3 | h3) | (h3 | h3))
          · exact .inl h3
          · exact .inr (.inl h3)
          · exact .inl (by rw [h3, h])
          · exact .inr (.inr h3)
        · rintro (h3 | h3 | h3)
          · exact .inl (.inl h3)
          · exact .inl (.inr h3)
          · exact .inr (.inr h3)), List.findSome?_cons, hf (nm p) (.inl (by simp))]
      have e : stepN (p :: X) (q :: Y) (nm p) = stepV p.f1 q.f1 := by
        unfold stepN
        rw [find_head]
        have : (q :: Y).find? (atN (nm p)) = some q := by rw [h]; exact find_head q Y
        rw [this]
      rw [e]
      have en : p.f0.toList = q.f0.toList := by rw [toL, toL]; exact h
      rw [lessL, if_pos en]
      unfold stepV
      by_cases hv : p.f1.toList = q.f1.toList
      · rw [if_pos hv, if_pos hv]
        show (List.findSome? f _).getD false = _
        refine less_fs X Y f (by simpa using hl) hX'.2 hY'.2 (fun n hn => ?_) _ (srtL_pw _) (fun n => by rw [srtL_mem, List.mem_append])
        have hlt := hgt n hn
        have hne : nm p ≠ n := fun e => by rw [e] at hlt; exact List.lt_irrefl _ hlt
        have hne2 : nm q ≠ n := by rw [← h]; exact hne
        rw [hf n (hn.elim (fun hn => .inl (List.mem_cons_of_mem _ hn)) (fun hn => .inr (List.mem_cons_of_mem _ hn)))]
        unfold stepN
        rw [find_tail hne, find_tail hne2]
      · rw [if_neg hv, if_neg hv]
        rfl
    · have hnot : ∀ x ∈ p :: X, nm x ≠ nm q := fun x hx e => by
        rcases List.mem_cons.1 hx with hx | hx
        · rw [← e, hx] at h; exact List.lt_irrefl _ h
        · have := lt_trS h (hX'.1 x hx)
          rw [e] at this; exact List.lt_irrefl _ this
      have hge : ∀ n, n ∈ srtL ((p :: X).map nm ++ Y.map nm) → nm q ≤ n := fun n hn => by
        rw [srtL_mem] at hn
        rcases List.mem_append.1 hn with hn | hn
        · obtain ⟨y, hy, rfl⟩ := List.mem_map.1 hn
          rcases List.mem_cons.1 hy with hy | hy
          · rw [hy]; exact List.le_of_lt h
          · exact List.le_of_lt (lt_trS h (hX'.1 y hy))
        · obtain ⟨x, hx, rfl⟩ := List.mem_map.1 hn
          exact List.le_of_lt (hY'.1 x hx)
      rw [fs_det f m (nm q :: srtL ((p :: X).map nm ++ Y.map nm)) hm (List.pairwise_cons.2 ⟨hge, srtL_pw _⟩) (fun n => by
        rw [hmem n, List.mem_cons, srtL_mem, List.mem_append, List.map_cons (f := nm) (a := q), List.mem_cons (a := n) (b := nm q)]
        constructor
        · rintro (h | h | h)
          · exact .inr (.inl h)
          · exact .inl h
          · exact .inr (.inr h)
        · rintro (h | h | h)
          · exact .inr (.inl h)
          · exact .inl h
          · exact .inr (.inr h)), List.findSome?_cons, hf (nm q) (.inr (by simp))]
      have e : stepN (p :: X) (q :: Y) (nm q) = some true := by
        unfold stepN
        rw [find_none hnot]
      rw [e]
      show true = lessL (p :: X) (q :: Y)
      rw [lessL, if_neg (fun e => by rw [toL, toL] at e; have e' : nm p = nm q := e; rw [e'] at h; exact List.lt_irrefl _ h), bless_eqS, toL, toL]
      exact (decide_eq_true (show nm q < nm p from h)).symm
def befP (X Y : List S59) : Bool := if X.length < Y.length then true else if Y.length < X.length then false else lessL X Y
theorem befV_is (a b : List S26) (k1 k2 : List (List UInt8)) (h1 : k1.Perm (strKeys (mset a))) (h2 : k2.Perm (strKeys (mset b))) : befV (mset a) (mset b) (srt (k1 ++ k2)) = befP (setGo (a.map conv) []) (setGo (b.map conv) []) := by
  unfold befV befP
  rw [size_is, size_is]
  split
  · rfl
  split
  · rfl
  rename_i c1 c2
  rw [befB_is]
  unfold srt
  rw [List.findSome?_map]
  refine less_fs _ _ _ (by omega) (setGo_sorted _) (setGo_sorted _) (fun n _ => stepD_is a b n) _ (srtL_pw _) (fun n => ?_)
  rw [srtL_mem, List.mem_append, h1.mem_iff, h2.mem_iff, keys_is, keys_is]
def impl_SetBefore.f (l0 : List (S26)) (l1 : List (S26)) : Option (Bool) := if l0.length ≤ 300000000 ∧ l1.length ≤ 300000000 ∧ shortPairs l0 ∧ shortPairs l1 then some (befP (setGo (l0.map conv) []) (setGo (l1.map conv) [])) else none
set_option maxRecDepth 100000 in
set_option maxHeartbeats 800000 in
theorem impl_SetBefore.calls (A0 : Option Addr) (c0 : Nat) (l0 : List (S26)) (A1 : Option Addr) (c1 : Nat) (l1 : List (S26)) (r : Bool) (w : World) (hr0 : Kd.C k26 w A0 l0.length l0) (hc0 : l0.length ≤ c0) (hr1 : Kd.C k26 w A1 l1.length l1) (hc1 : l1.length ≤ c1) (h : impl_SetBefore.f l0 l1 = some r) :
    Calls Try.prog 22 #[.slice A0 l0.length c0, .slice A1 l1.length c1] w fun e w' => e = .returned (.bool r) ∧ Below w.heap.size w w' := by
  unfold impl_SetBefore.f at h
  split at h
  case isFalse => cases h
  rename_i hh
  obtain ⟨hl0, hl1, hs0, hs1⟩ := hh
  obtain rfl := Option.some.inj h
  clear h
  have HR0 := Aside0.mk hr0
  have HR1 := Aside0.mk hr1
  have HS0 := Aside0.mk hs0
  have HS1 := Aside0.mk hs1
  clear hr0 hr1 hs0 hs1
  go_enter Try.func22, Try.ntmps22
  go_wp2_with fail
  refine (labelSet_calls _ _ _ _ HR0.out hc0 (by omega) HS0.out).mono ?_
  rintro e w1 ⟨b1, rfl, hb1, ho1, hB1⟩
  have HO1 := Aside0.mk ho1
  have HB1 := Aside0.mk hB1
  have HR1' := Aside0.mk (Kd.C_below HR1.out hB1)
  clear hb1 ho1 hB1
  go_wp2_with fail
  refine (labelSet_calls _ _ _ _ HR1'.out hc1 (by omega) HS1.out).mono ?_
  rintro e w2 ⟨b2, rfl, hb2, ho2, hB2⟩
  have HO2 := Aside0.mk ho2
  have HO1' := Aside0.mk (own_R_below HO1.out hB2)
  have HB2 := Aside0.mk (below_step HB1.out hB2)
  clear hb2 ho2 hB2
  go_wp2_with fail
  refine (before_calls _ _ _ _ _ _ _ HO1'.out HO2.out (by have := size_mset l0; omega) (by have := size_mset l1; omega)).mono ?_
  rintro e w3 ⟨k1, k2, rfl, hk1, hk2, hB3⟩
  have HB3 := Aside0.mk (below_step HB2.out hB3)
  have HE := Aside0.mk (befV_is l0 l1 k1 k2 hk1 hk2)
  clear hk1 hk2 hB3
  go_wp2
  go_ret
  exact ⟨by rw [← HE.out]; rfl, HB3.out⟩
end Go.Proofs.Ytikhlolhodgegaa.Q
