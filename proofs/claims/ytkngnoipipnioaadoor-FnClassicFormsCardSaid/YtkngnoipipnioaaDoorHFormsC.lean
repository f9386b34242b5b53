/- The law FnClassicForms as a function of its arguments, and its contract. Condition: the library's tables of UTF-8 as it lays them. -/
import Derived.Test.YtkngnoipipnioaaDoorHFormsL
set_option linter.unusedVariables false
set_option linter.unusedSimpArgs false
namespace Go.Proofs.YtkngnoipipnioaaDoor.Q
open Go.RowKit Go.Lib Go.Proofs.YtkngnoipipnioaaDoorW.PrintWords Go.Proofs.YtkngnoipipnioaaDoorW.PrintLast Go.Proofs.YtkngnoipipnioaaDoorW.PrintMore
attribute [local go_sem] max2_int min2_int max_two min_two max_three min_three max_four min_four
/-- Whole numbers of a kind, within its bounds. -/
def kdW (k : IntKind) : Kd Int where
  sz := 1
  E := []
  K := fun _ x cs => cs = [.int k x] ∧ (Lit.int k x).wf = true
  M := fun _ _ _ x cs => cs = [.int k x] ∧ (Lit.int k x).wf = true
  K_len := fun h => by rw [h.1]; rfl
  K_one := fun h u hu => by
    rw [h.1] at hu
    rw [List.mem_singleton.1 hu]
    rfl
  K_below := fun _ h => h
  K_of_M := fun h => h
  M_mono := fun _ h => h
  M_bound := fun h => h
  M_move := fun _ h => h
  M_lower := fun _ h => h
theorem opens_intW {P : Program} {t : TypeId} {k : IntKind} (ht : P.underlying t = some (.int k)) : Opens P t (kdW k) := by
  intro H enc w base spare held fuel cs x h
  obtain ⟨n, rfl, _, hw⟩ := DataW.trod_int ht h
  exact ⟨n, rfl, hw⟩
theorem kdW_int {w : World} {A : Option Addr} {n : Nat} {xs : List Int} {k : IntKind} (h : Kd.C (kdW k) w A n xs) : Kd.C (Kd.int k) w A n xs := ReadsRow.imp_ h (Below.refl _ _) (fun _ _ hp => hp.1)
theorem kdW_range {w : World} {A : Option Addr} {xs : List Int} (h : Kd.C (kdW .u8) w A xs.length xs) : ∀ x ∈ xs, 0 ≤ x ∧ x ≤ 255 := by
  intro x hx
  obtain ⟨i, hi, rfl⟩ := List.getElem_of_mem hx
  obtain ⟨ad, c, e, _, hK, _⟩ := Kd.C_get h 0 (i : Int) (by omega) (by omega)
  have e2 : xs.getD ((i : Int)).toNat 0 = xs[i] := by simp [List.getD_eq_getElem?_getD, List.getElem?_eq_getElem hi]
  have hw := hK.2
  rw [e2] at hw
  simp [Lit.wf, IntKind.min, IntKind.max, IntKind.bits, IntKind.signed] at hw
  omega
open Classical in
/-- The law as a function: true where the sizes end it, or where both texts are read as the matcher. -/
noncomputable def laws_FnClassicForms.f (a0 a1 : ByteArray) (l2 : List Int) (a3 : Bool) : Option Bool :=
  if 3000 < a0.size ∨ 3000 < a1.size ∨ 2147483647 < l2.length then some true
  else if ∃ n v k1 k2, laws_oldName.f k1 a0 = some n ∧ laws_plainValue.f k2 a1 = some v ∧ n.size ≤ 3100 ∧ v.size ≤ 3100 ∧ clsB (form1 n v l2 a3) = some (kindB a3, n, v) ∧ clsB (form2 n v l2 a3) = some (kindB a3, n, v) then some true else none
set_option maxRecDepth 100000 in
set_option maxHeartbeats 2000000 in
theorem forms_big (a0 a1 : ByteArray) (A2 : Option Addr) (c2 : Nat) (l2 : List Int) (a3 : Bool) (w : World) (h : 3000 < a0.size ∨ 3000 < a1.size ∨ 2147483647 < l2.length) :
    Calls Tryd.prog 3 #[.string a0, .string a1, .slice A2 l2.length c2, .bool a3] w fun e w' => e = .returned (.bool true) ∧ Below w.heap.size w w' := by
  by_cases b0 : 2147483647 < a0.size
  · have q0 : decide (2147483647 < (a0.size : Int)) = true := decide_eq_true (by omega)
    have q0' : decide (2147483647 < a0.size) = true := decide_eq_true b0
    go_enter Tryd.func3, Tryd.ntmps3
    go_wp2
    go_ret
    exact ⟨rfl, by repeat (first | exact Below.refl _ _ | apply below_drew | apply pw_below_drewN | apply below_alloc)⟩
  have q0 : decide (2147483647 < (a0.size : Int)) = false := decide_eq_false (by omega)
  have q0' : decide (2147483647 < a0.size) = false := decide_eq_false b0
  by_cases b1 : 2147483647 < a1.size
  · have q1 : decide (2147483647 < (a1.size : Int)) = true := decide_eq_true (by omega)
    have q1' : decide (2147483647 < a1.size) = true := decide_eq_true b1
    go_enter Tryd.func3, Tryd.ntmps3
    go_wp2
    go_ret
    exact ⟨rfl, by repeat (first | exact Below.refl _ _ | apply below_drew | apply pw_below_drewN | apply below_alloc)⟩
  have q1 : decide (2147483647 < (a1.size : Int)) = false := decide_eq_false (by omega)
  have q1' : decide (2147483647 < a1.size) = false := decide_eq_false b1
  by_cases b2 : 2147483647 < l2.length
  · have q2 : decide (2147483647 < (l2.length : Int)) = true := decide_eq_true (by omega)
    have q2' : decide (2147483647 < l2.length) = true := decide_eq_true b2
    go_enter Tryd.func3, Tryd.ntmps3
    go_wp2
    go_ret
    exact ⟨rfl, by repeat (first | exact Below.refl _ _ | apply below_drew | apply pw_below_drewN | apply below_alloc)⟩
  have q2 : decide (2147483647 < (l2.length : Int)) = false := decide_eq_false (by omega)
  have q2' : decide (2147483647 < l2.length) = false := decide_eq_false b2
  by_cases b3 : 3000 < a0.size
  · have q3 : decide (3000 < (a0.size : Int)) = true := decide_eq_true (by omega)
    have q3' : decide (3000 < a0.size) = true := decide_eq_true b3
    go_enter Tryd.func3, Tryd.ntmps3
    go_wp2
    go_ret
    exact ⟨rfl, by repeat (first | exact Below.refl _ _ | apply below_drew | apply pw_below_drewN | apply below_alloc)⟩
  have q3 : decide (3000 < (a0.size : Int)) = false := decide_eq_false (by omega)
  have q3' : decide (3000 < a0.size) = false := decide_eq_false b3
  have b4 : 3000 < a1.size := by omega
  have q4 : decide (3000 < (a1.size : Int)) = true := decide_eq_true (by omega)
  have q4' : decide (3000 < a1.size) = true := decide_eq_true b4
  go_enter Tryd.func3, Tryd.ntmps3
  go_wp2
  go_ret
  exact ⟨rfl, by repeat (first | exact Below.refl _ _ | apply below_drew | apply pw_below_drewN | apply below_alloc)⟩
theorem laws_FnClassicForms.calls (a0 a1 : ByteArray) (A2 : Option Addr) (c2 : Nat) (l2 : List Int) (a3 : Bool) (r : Bool) (w : World) (tb : TBu w) (hr2 : Kd.C (kdW .u8) w A2 l2.length l2) (hc2 : l2.length ≤ c2) (h : laws_FnClassicForms.f a0 a1 l2 a3 = some r) :
    Calls Tryd.prog 3 #[.string a0, .string a1, .slice A2 l2.length c2, .bool a3] w fun e w' => e = .returned (.bool r) ∧ Below w.heap.size w w' := by
  unfold laws_FnClassicForms.f at h
  split at h
  · rename_i hb
    obtain rfl := Option.some.inj h
    exact forms_big a0 a1 A2 c2 l2 a3 w hb
  · rename_i hb
    split at h
    · rename_i hp
      obtain rfl := Option.some.inj h
      obtain ⟨n, v, k1, k2, e1, e2, e3, e4, e5, e6⟩ := hp
      exact forms_calls a0 a1 n v A2 c2 l2 a3 k1 k2 w tb (kdW_int hr2) hc2 (kdW_range hr2) (by omega) (by omega) (by omega) e1 e2 e3 e4 e5 e6
    · cases h
end Go.Proofs.YtkngnoipipnioaaDoor.Q
