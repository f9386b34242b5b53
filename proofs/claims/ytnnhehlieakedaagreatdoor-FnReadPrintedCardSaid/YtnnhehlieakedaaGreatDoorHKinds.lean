/- Kinds of values in memory for the hand-written contracts of this seat: pointers to structs that lie in blocks of their own; how an argument that can be read as data is laid open as a value of a kind. No condition. -/
import Derived.Test.YtnnhehlieakedaaGreatDoorQ0
import Derived.ChangeSame
import Derived.Deep.Strs
import Derived.Deep.Slices
import Derived.Lib.SmallJoins
namespace Go.Proofs.YtnnhehlieakedaaGreatDoor.Q
open Go.RowKit Go.Proofs.YtnnhehlieakedaaGreatDoorW.PrintWords Go.Proofs.YtnnhehlieakedaaGreatDoorW.PrintLast Go.Proofs.YtnnhehlieakedaaGreatDoorW.PrintMore

/-- A pointer to the head of a block of type t whose cells are of kind d. -/
def ptrK {α : Type} (t : Nat) (d : Kd α) : Kd α where
  sz := 1
  E := t :: d.E
  K := fun w x cs => ∃ b c, cs = [.pointer (some ⟨b, 0, none⟩)] ∧ w.heap[b]? = some (.cells (List.toArray c) t (0, 0)) ∧ d.K w x c
  M := fun w base ok x cs => ∃ b c, cs = [.pointer (some ⟨b, 0, none⟩)] ∧ ok b ∧ base ≤ b ∧ w.heap[b]? = some (.cells (List.toArray c) t (0, 0)) ∧ d.M w base (fun k => ok k ∧ k ≠ b) x c
  K_len := by
    rintro w x cs ⟨b, c, rfl, _⟩
    rfl
  K_one := by
    rintro w x cs ⟨b, c, rfl, _⟩ u hu
    rw [List.mem_singleton.1 hu]
    rfl
  K_below := by
    rintro w w1 x cs hb ⟨b, c, rfl, hh, hk⟩
    exact ⟨b, c, rfl, blk_below hh hb, d.K_below hb hk⟩
  K_of_M := by
    rintro w base ok x cs ⟨b, c, rfl, _, _, hh, hm⟩
    exact ⟨b, c, rfl, hh, d.K_of_M hm⟩
  M_mono := by
    rintro w base ok ok' x cs hok ⟨b, c, rfl, h1, h2, hh, hm⟩
    exact ⟨b, c, rfl, hok b h1, h2, hh, d.M_mono (fun k hk => ⟨hok k hk.1, hk.2⟩) hm⟩
  M_bound := by
    rintro w base ok x cs ⟨b, c, rfl, h1, h2, hh, hm⟩
    refine ⟨b, c, rfl, ⟨h1, h2, blk_lt hh, t, List.mem_cons_self, _, hh⟩, h2, hh, d.M_mono ?_ (d.M_bound hm)⟩
    rintro k ⟨⟨a1, a2⟩, a3, a4, q, hq, hc⟩
    exact ⟨⟨a1, a3, a4, q, List.mem_cons_of_mem _ hq, hc⟩, a2⟩
  M_move := by
    rintro w w1 base ok x cs hm ⟨b, c, rfl, h1, h2, hh, hx⟩
    exact ⟨b, c, rfl, h1, h2, (hm b h1).trans hh, d.M_move (fun k hk => hm k hk.1) hx⟩
  M_lower := by
    rintro w base base' ok x cs hb ⟨b, c, rfl, h1, h2, hh, hx⟩
    exact ⟨b, c, rfl, h1, Nat.le_trans hb h2, hh, d.M_lower hb hx⟩

theorem at_ptr {α : Type} {t : Nat} {d : Kd α} {w : World} {A : Option Addr} {n : Nat} {xs : List α} (h : Kd.C (ptrK t d) w A n xs) (z : α) (i : Int) (h0 : 0 ≤ i) (h1 : i < n) :
    ∃ ad b c, A = some ad ∧ w.cell? (ad.add i.toNat) = some (.pointer (some ⟨b, 0, none⟩)) ∧ w.heap[b]? = some (.cells (List.toArray c) t (0, 0)) ∧ d.K w (xs.getD i.toNat z) c := by
  obtain ⟨ad, c, e, _, ⟨b, cc, rfl, hh, hk⟩, hc0⟩ := Kd.C_get h z i h0 h1
  refine ⟨ad, b, cc, e, ?_, hh, hk⟩
  have hq := hc0 0 _ rfl
  have e1 : i.toNat * (ptrK t d).sz + 0 = i.toNat := by show i.toNat * 1 + 0 = i.toNat; omega
  rwa [e1] at hq

/-- Whatever can be read as data of type t is a value of kind d. -/
def Opens {α : Type} (P : Program) (t : TypeId) (d : Kd α) : Prop :=
  ∀ {H : Type} {enc : TypeId × Value → H} {w : World} {base : Nat} {spare : Nat → Bool} {held : Bool} {fuel : Nat} {cs : List Value} {x : DataW H × List MemPlace},
    DataW.trod enc P w base spare held fuel t cs = some x → ∃ a : α, d.K w a cs
section
variable {P : Program} {t : TypeId}
theorem opens_string (ht : P.underlying t = some .string) : Opens P t Kd.string := by
  intro H enc w base spare held fuel cs x h
  obtain ⟨s, rfl, _⟩ := DataW.trod_string ht h
  exact ⟨s, rfl⟩
theorem opens_int {k : IntKind} (ht : P.underlying t = some (.int k)) : Opens P t (Kd.int k) := by
  intro H enc w base spare held fuel cs x h
  obtain ⟨n, rfl, _⟩ := DataW.trod_int ht h
  exact ⟨n, rfl⟩
theorem opens_iso {α β : Type} {d : Kd α} {f : β → α} (g : α → β) (hg : ∀ x, f (g x) = x) (h : Opens P t d) : Opens P t (Kd.iso d f) := by
  intro H enc w base spare held fuel cs x hx
  obtain ⟨a, ha⟩ := h hx
  exact ⟨g a, by show d.K w (f (g a)) cs; rw [hg]; exact ha⟩
theorem opens_slice {α : Type} {d : Kd α} {e : TypeId} (ht : P.underlying t = some (.slice e)) (hc : P.cellsOf e = d.sz) (he : Opens P e d) : Opens P t (Kd.slice e d) := by
  intro H enc w base spare held fuel cs x h
  rcases Deep.open_slice ht h with ⟨rfl, _⟩ | ⟨a, len, cap, m, n, D, Pl, rfl, hb, hl, hm, hmm, rfl, hx⟩
  · exact ⟨[], none, 0, rfl, Nat.le_refl _, rfl, by simp, fun h0 => absurd h0 (by simp)⟩
  · have hlm : len ≤ m := by rw [hmm]; split <;> omega
    have hex : ∀ i, i < len → ∃ p : α × List Value, w.cells? base (a.add (i * P.cellsOf e)) (P.cellsOf e) = some p.2 ∧ d.K w p.1 p.2 := fun i hi => by
      obtain ⟨cs', h1, h2⟩ := hx i (by omega)
      obtain ⟨y, hy⟩ := he h2
      exact ⟨(y, cs'), h1, hy⟩
    obtain ⟨l, hll, hl2⟩ : ∃ l : List α, l.length = len ∧ ∀ i y, l[i]? = some y → ∃ c, w.cells? base (a.add (i * P.cellsOf e)) (P.cellsOf e) = some c ∧ d.K w y c := by
      clear hx h hmm hl hlm
      induction len with
      | zero => exact ⟨[], rfl, fun i y hy => by simp at hy⟩
      | succ len ih =>
        obtain ⟨l, h1, h2⟩ := ih (fun i hi => hex i (by omega))
        obtain ⟨⟨y, c⟩, h3, h4⟩ := hex len (by omega)
        refine ⟨l ++ [y], by simp [h1], fun i z hz => ?_⟩
        rcases Nat.lt_or_ge i l.length with hi | hi
        · rw [List.getElem?_append_left hi] at hz
          exact h2 i z hz
        · rw [List.getElem?_append_right hi] at hz
          have hi' : i - l.length = 0 := by
            rcases Nat.eq_zero_or_pos (i - l.length) with h | h
            · exact h
            · rw [List.getElem?_eq_none (by simp; omega)] at hz
              cases hz
          have hii : i = len := by omega
          subst hii
          rw [hi'] at hz
          obtain rfl : y = z := by simpa using hz
          exact ⟨c, h3, h4⟩
    subst hll
    refine ⟨l, some a, cap, rfl, hl, rfl, by unfold maxLen at hm; omega, fun h0 => ⟨a, rfl, fun j p hj => ?_⟩⟩
    obtain ⟨c, h1, h2⟩ := hl2 j p hj
    obtain ⟨_, h4, h5⟩ := World.cells?_some h1
    refine ⟨c, by rw [h4, hc], h2, fun i u hu => ?_⟩
    have hi : i < P.cellsOf e := by
      have := (List.getElem?_eq_some_iff.1 hu).1
      omega
    rw [← hc, ← Deep.add_add]
    exact (h5 i hi).trans hu
theorem opens_struct3 {α β γ : Type} {d0 : Kd α} {d1 : Kd β} {d2 : Kd γ} {f0 f1 f2 : Field} (ht : P.underlying t = some (.struct #[f0, f1, f2])) (ho : f0.offset = 0 ∧ f1.offset = d0.sz ∧ f2.offset = d0.sz + d1.sz) (hc : P.cellsOf f0.type = d0.sz ∧ P.cellsOf f1.type = d1.sz ∧ P.cellsOf f2.type = d2.sz ∧ P.cellsOf t = d0.sz + (d1.sz + d2.sz)) (h0 : Opens P f0.type d0) (h1 : Opens P f1.type d1) (h2 : Opens P f2.type d2) :
    Opens P t (Kd.pair d0 (Kd.pair d1 d2)) := by
  intro H enc w base spare held fuel cs x h
  obtain ⟨y0, y1, y2, n, _, hl, e0, e1, e2⟩ := Deep.trod_struct3 ht h
  rw [ho.1, hc.1, List.drop_zero] at e0
  rw [ho.2.1, hc.2.1] at e1
  rw [ho.2.2, hc.2.2.1] at e2
  obtain ⟨a, ha⟩ := h0 e0
  obtain ⟨b, hb⟩ := h1 e1
  obtain ⟨c, hc'⟩ := h2 e2
  refine ⟨(a, b, c), _, _, ?_, ha, _, _, rfl, hb, hc'⟩
  rw [List.take_of_length_le (l := cs.drop (d0.sz + d1.sz)) (by rw [List.length_drop]; omega), ← List.drop_drop, List.take_append_drop, List.take_append_drop]
end
end Go.Proofs.YtnnhehlieakedaaGreatDoor.Q
