/- Whole numbers of a kind, with their bounds. No condition. -/
import Derived.Test.YtikhlolhodgegaaHKinds
set_option linter.unusedVariables false
set_option linter.unusedSimpArgs false
namespace Go.Proofs.Ytikhlolhodgegaa.Q
open Go.RowKit Go.Proofs.YtikhlolhodgegaaW.PrintWords Go.Proofs.YtikhlolhodgegaaW.PrintLast Go.Proofs.YtikhlolhodgegaaW.PrintMore
/-- Whole numbers of a kind, within its bounds. -/
def kdW (k : IntKind) : Kd Int where
  sz := 1
  E := []
  K := fun _ x cs => cs = [.int k x] ∧ (Lit.int k x).wf = true
  M := fun _ _ _ x cs => cs = [.int k x] ∧ (Lit.int k x).wf = true
  K_len := fun h => by rw [h.1]; rfl
  K_one := fun h u hu => by
    rw [h.1] at hu
    rw [List.mem_singleton.1 hu]
    rfl
  K_below := fun _ h => h
  K_of_M := fun h => h
  M_mono := fun _ h => h
  M_bound := fun h => h
  M_move := fun _ h => h
  M_lower := fun _ h => h
theorem opens_intW {P : Program} {t : TypeId} {k : IntKind} (ht : P.underlying t = some (.int k)) : Opens P t (kdW k) := by
  intro H enc w base spare held fuel cs x h
  obtain ⟨n, rfl, _, hw⟩ := DataW.trod_int ht h
  exact ⟨n, rfl, hw⟩
theorem kdW_int {w : World} {A : Option Addr} {n : Nat} {xs : List Int} {k : IntKind} (h : Kd.C (kdW k) w A n xs) : Kd.C (Kd.int k) w A n xs := ReadsRow.imp_ h (Below.refl _ _) (fun _ _ hp => hp.1)
theorem kdW_range {w : World} {A : Option Addr} {xs : List Int} (h : Kd.C (kdW .u8) w A xs.length xs) : ∀ x ∈ xs, 0 ≤ x ∧ x ≤ 255 := by
  intro x hx
  obtain ⟨i, hi, rfl⟩ := List.getElem_of_mem hx
  obtain ⟨ad, c, e, _, hK, _⟩ := Kd.C_get h 0 (i : Int) (by omega) (by omega)
  have e2 : xs.getD ((i : Int)).toNat 0 = xs[i] := by simp [List.getD_eq_getElem?_getD, List.getElem?_eq_getElem hi]
  have hw := hK.2
  rw [e2] at hw
  simp [Lit.wf, IntKind.min, IntKind.max, IntKind.bits, IntKind.signed] at hw
  omega
end Go.Proofs.Ytikhlolhodgegaa.Q
