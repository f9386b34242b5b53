/- A set of labels that the program makes of pairs: what impl.labelSet returns, and how a value is looked up in it. No condition beyond the lengths named. -/
import Derived.Test.YtikhlolhodgegaaHKinds
import Derived.Maps.OwnSet
import Derived.Maps.StringElems
import Derived.Maps.RangeWalk
import Derived.Sort.KeysCollected
import Derived.WalkLawsBesides
set_option linter.unusedVariables false
set_option linter.unusedSimpArgs false
namespace Go.Proofs.Ytikhlolhodgegaa.Q
open Go.RowKit Go.Proofs.YtikhlolhodgegaaW.PrintWords Go.Proofs.YtikhlolhodgegaaW.PrintLast Go.Proofs.YtikhlolhodgegaaW.PrintMore
open Go.Maps (Keyed string_keyed)
open Go.WideElems (Fit)
attribute [local go_sem] max2_int min2_int max_two min_two max_three min_three max_four min_four

/-- A set of labels as a datum, and the one that pairs make. -/
def mput (D : DataW Unit) (p : S26) : DataW Unit := D.put (.string p.f0.data.toList) (.lit (.string p.f1.data.toList))
def mset (l : List S26) : DataW Unit := l.foldl mput (.map [])
theorem mset_snoc (l : List S26) (p : S26) : mset (l ++ [p]) = (mset l).put (.string p.f0.data.toList) (.lit (.string p.f1.data.toList)) := by simp [mset, mput]
/-- All texts are as long as the form reads. -/
def shortPairs (l : List S26) : Prop := ∀ p ∈ l, p.f0.size ≤ 140737488355328 ∧ p.f1.size ≤ 140737488355328
theorem keyed67 : Keyed Try.prog 105 := string_keyed Try.underlying105
theorem take_step26 (l : List S26) (x : Int) (h0 : 0 ≤ x) (h1 : x < (l.length : Int)) : l.take (x + 1).toNat = l.take x.toNat ++ [rd_T26 l x] ∧ rd_T26 l x ∈ l := by
  obtain ⟨n, rfl⟩ := Int.eq_ofNat_of_zero_le h0
  have e : ((n : Int) + 1).toNat = n + 1 := by omega
  rw [e, Int.toNat_natCast, List.take_succ_eq_append_getElem (by omega)]
  have e2 : rd_T26 l n = l[n] := by simp [rd_T26, List.getD_eq_getElem?_getD, List.getElem?_eq_getElem (show n < l.length by omega)]
  rw [e2]
  exact ⟨rfl, List.getElem_mem _⟩
/-- Block b of w is a set of labels that reads as D. -/
def OwnsSet (w : World) (b n : Nat) (D : DataW Unit) : Prop := w.ownsMap Try.prog 105 (plainElem Try.prog 110) b n D
set_option maxRecDepth 100000 in
set_option maxHeartbeats 800000 in
theorem labelSet_calls (A0 : Option Addr) (c0 : Nat) (l0 : List S26) (w : World) (hr0 : Kd.C k26 w A0 l0.length l0) (_hc0 : l0.length ≤ c0) (hlen : l0.length ≤ 10000000000) (hs : shortPairs l0) :
    Calls Try.prog 56 #[.slice A0 l0.length c0] w fun e w' => ∃ b, e = .returned (.map (some b)) ∧ w.heap.size ≤ b ∧ OwnsSet w' b l0.length (mset l0) ∧ Below w.heap.size w w' := by
  have hu26 := Try.underlying26
  have hmm := @run_makeMap Try.prog
  have HR0 := Aside0.mk hr0
  have HS := Aside0.mk hs
  clear hr0 hs
  have HB := Aside0.mk (Below.refl w.heap.size w)
  go_enter Try.func56, Try.ntmps56
  go_wp2
  go_loopw [9] (fun v9 w' => ∃ x : Int, 0 ≤ x ∧ x ≤ (l0.length : Int) ∧ v9 = .int .i64 x ∧ Aside0 (OwnsSet w' w.heap.size x.toNat (mset (l0.take x.toNat))) ∧ Aside0 (Below w.heap.size w w')) (fun v9 _ => ((l0.length : Int) - intOf v9).toNat)
  case atStart => exact ⟨0, by omega, by omega, rfl, ⟨World.ownsMap_made _ _ _ _⟩, ⟨below_alloc HB.out _⟩⟩
  case round =>
    obtain ⟨x, hx, hxl, rfl, HO, HB⟩ := hrel
    by_cases hlt : x < (l0.length : Int)
    · obtain ⟨ad, e1, hx0, hx1⟩ := at_T26 HR0.out x hx hlt
      cases e1
      replace hx0 := (HB.out.cell (World.block_lt_of_cell? w _ hx0)).trans hx0
      replace hx1 := (HB.out.cell (World.block_lt_of_cell? w _ hx1)).trans hx1
      have hp := eq_true hx
      have hq := eq_true hlt
      have hst := take_step26 l0 x hx hlt
      generalize rd_T26 l0 x = p at *
      have hsp := HS.out p hst.2
      have hst := Aside0.mk hst.1
      have HK : Aside0 (keyOf Try.prog 105 (.string p.f0) = some (.string p.f0.data.toList)) := ⟨WideMaps.keyOf_string_mk Try.underlying105 (by unfold maxLen; omega)⟩
      have HV : Aside0 (plainElem (H := Unit) Try.prog 110 (.string p.f1) = some (.lit (.string p.f1.data.toList), [])) := ⟨plainElem_string Try.underlying110 (by unfold maxLen; omega)⟩
      clear hsp
      go_wp2_with (at_mapUpdate; refine wpList_mapUpdate_own _ rfl _ _ _ 65 rfl 105 110 keyed67 Try.underlying65 (plainElem Try.prog 110) w.heap.size x.toNat (mset (l0.take x.toNat)) rfl (World.ownsMap.alloc HO.out _) (by unfold maxLen; omega) _ _ _ rfl rfl HK.out _ [] HV.out ?_; intro w1 hown1 hgrow1; have HO2 := Aside0.mk hown1; have HB2 := Aside0.mk (Below.grown (below_alloc HB.out _) hgrow1 (below_alloc HB.out _).size (fun j hj => by cases hj; exact Nat.le_refl _)); clear hown1 hgrow1)
      go_roundw
      case rel => exact ⟨x + 1, by omega, by omega, rfl, ⟨by rw [hst.out, mset_snoc]; have e : (x + 1).toNat = x.toNat + 1 := by omega
                                                             rw [e]; exact HO2.out⟩, HB2⟩
      case measure => simp [intOf]; omega
    · have hxe : x = (l0.length : Int) := by omega
      subst hxe
      have HO := HO.out
      simp only [Int.toNat_natCast, List.take_length] at HO
      have HO := Aside0.mk HO
      go_wp2
      go_ret
      exact ⟨w.heap.size, rfl, Nat.le_refl _, HO.out, HB.out⟩
/-- The value of a name in a set of labels: the empty text if there is none. -/
def valD (D : DataW Unit) (k : ByteArray) : ByteArray :=
  match D.atKey (.string k.data.toList) (.lit (.string [])) with
  | .lit (.string l) => ⟨l.toArray⟩
  | _ => ⟨#[]⟩
theorem valD_of {D : DataW Unit} {k s : ByteArray} (h : D.atKey (.string k.data.toList) (.lit (.string [])) = .lit (.string s.data.toList)) : s = valD D k := by
  unfold valD
  rw [h]
theorem zero68 (w : World) : (zeroValue 110).run Try.prog w = .ok (.string ⟨#[]⟩) w := by kernel_rfl
theorem lookup_str {P : Program} (w : World) {ops : Array Oper} {rest : List Oper} {o : Oper} {a : Act} {Q : Exit → Act → World → Prop}
    (hg : o.guard = none) (m x : Operand) (t : TypeId) (hop : o.op = Op.lookup t m x false)
    (k e : TypeId) (K : Keyed P k) (ht : P.underlying t = some (.map k e)) (he : P.underlying e = some .string) (hz : (zeroValue e).run P w = .ok (.string ⟨#[]⟩) w) (b n : Nat) (D : DataW Unit)
    (hm : a.eval m = .map (some b)) (hown : w.ownsMap P k (plainElem P e) b n D) (key : Value) (ks : ByteArray) (hx : a.eval x = key) (hkey : keyOf P k key = some (.string ks.data.toList))
    (hK : ∀ s : ByteArray, s = valD D ks → s.size ≤ maxLen → wpList P ops Q rest (a.put o.dst (.string s)) w) :
    wpList P ops Q (o :: rest) a w := by
  refine wpList_plain hg fun K' hK' => ?_
  obtain ⟨v, ps, hrun, hv⟩ := hown.lookup K ht hz (plainElem_string he (s := ⟨#[]⟩) (Nat.zero_le _)) hkey
  obtain ⟨s, rfl, hc, hl⟩ := plainElem_string_inv he hv
  simp only [Prod.mk.injEq] at hc
  unfold Oper.wp
  simp [execOp, hop, hm, hx, hrun, Result.andThen]
  exact hK' _ _ (hK s (valD_of hc.1) hl)

instance (l : List S26) : Decidable (shortPairs l) := inferInstanceAs (Decidable (∀ p ∈ l, _))
theorem own_R_below {w w1 : World} {b n : Nat} {D : DataW Unit} (h : OwnsSet w b n D) (hb : Below w.heap.size w w1) : OwnsSet w1 b n D := h.kept (grown_of_below hb none) (by simp)
end Go.Proofs.Ytikhlolhodgegaa.Q
