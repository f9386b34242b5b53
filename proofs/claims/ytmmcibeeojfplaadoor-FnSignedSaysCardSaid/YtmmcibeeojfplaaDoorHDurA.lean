/- model.unitMap: the units of time by their names. Condition: the name's length. -/
import Derived.Test.YtmmcibeeojfplaaDoorHErr
import Derived.Test.YtmmcibeeojfplaaDoorUDur
import Derived.Maps.OwnSet
import Derived.Outline
import Derived.Lib.Builder
set_option linter.unusedVariables false
set_option linter.unusedSimpArgs false
namespace Go.Proofs.YtmmcibeeojfplaaDoor.Q
open Go.RowKit Go.Proofs.YtmmcibeeojfplaaDoorW.PrintWords Go.Proofs.YtmmcibeeojfplaaDoorW.PrintLast Go.Proofs.YtmmcibeeojfplaaDoorW.PrintMore
open Go.Maps (Keyed string_keyed)
attribute [local go_sem] max2_int min2_int max_two min_two max_three min_three max_four min_four
theorem wpList_insert_own {H : Type} {P : Program} (w : World) {ops : Array Oper} {rest : List Oper} {o : Oper} {a : Act} {Q : Exit → Act → World → Prop}
    (hg : o.guard = none) (m x v : Operand) (t : TypeId) (hop : o.op = Op.insert t m x v)
    (k e : TypeId) (K : Keyed P k) (ht : P.underlying t = some (.map k e)) (R : Value → Option (DataW H × List MemPlace)) (b n : Nat) (D : DataW H)
    (hm : a.eval m = .map (some b)) (hown : w.ownsMap P k R b n D) (hn : n < maxLen) (key val : Value) (kl : Lit) (hx : a.eval x = key) (hv : a.eval v = val) (hkey : keyOf P k key = some kl)
    (d : DataW H) (ps : List MemPlace) (hval : R val = some (d, ps))
    (hK : ∀ w', w'.ownsMap P k R b (n + 1) (D.put kl d) → w.grownBy w' (some b) → wpList P ops Q rest (a.put o.dst undef) w') :
    wpList P ops Q (o :: rest) a w := by
  refine wpList_plain hg fun K' hK' => ?_
  obtain ⟨w', hrun, r1, r2⟩ := hown.update K ht hn hkey hval
  unfold Oper.wp
  simp [execOp, hop, hm, hx, hv, hrun, Result.andThen]
  exact hK' _ _ (hK w' r1 r2)
/-- A unit as a map's element. -/
def unitE (v : Value) : Option (DataW Unit × List MemPlace) := match v with
  | .agg cs => match cs.toList with
    | [.int .i64 p, .int .u64 m] => some (.agg [.lit (.int .i64 p), .lit (.int .u64 m)], [])
    | _ => none
  | _ => none
theorem unitE_inv {v : Value} {p m : Int} {ps : List MemPlace} (h : unitE v = some (.agg [.lit (.int .i64 p), .lit (.int .u64 m)], ps)) : v = .agg #[.int .i64 p, .int .u64 m] := by
  unfold unitE at h
  split at h
  · rename_i cs
    split at h
    · rename_i p' m' e
      injection h with h
      injection h with h1 h2
      injection h1 with h1
      injection h1 with h3 h4
      injection h4 with h4 h5
      injection h3 with h3
      injection h3 with _ h3
      injection h4 with h4
      injection h4 with _ h4
      subst h3 h4
      rw [← Array.toArray_toList (xs := cs), e]
    · cases h
  · cases h
def uput (D : DataW Unit) (k : List UInt8) (p m : Int) : DataW Unit := D.put (.string k) (.agg [.lit (.int .i64 p), .lit (.int .u64 m)])
def unitsD : DataW Unit := uput (uput (uput (uput (uput (uput (uput (.map []) [109, 115] 7 1000000) [115] 6 1000000000) [109] 5 60000000000) [104] 4 3600000000000) [100] 3 86400000000000) [119] 2 604800000000000) [121] 1 31536000000000000
def unitP (u : List UInt8) : Int × Int := ((unitT u).map fun x => (x.1, (x.2 : Int))).getD (0, 0)
set_option maxRecDepth 100000 in
theorem at_units (u : List UInt8) : unitsD.atKey (.string u) (.agg [.lit (.int .i64 0), .lit (.int .u64 0)]) = .agg [.lit (.int .i64 (unitP u).1), .lit (.int .u64 (unitP u).2)] := by
  unfold unitP unitT
  by_cases h0 : u = [109, 115]
  · subst h0; rfl
  by_cases h1 : u = [115]
  · subst h1; rfl
  by_cases h2 : u = [109]
  · subst h2; rfl
  by_cases h3 : u = [104]
  · subst h3; rfl
  by_cases h4 : u = [100]
  · subst h4; rfl
  by_cases h5 : u = [119]
  · subst h5; rfl
  by_cases h6 : u = [121]
  · subst h6; rfl
  rw [if_neg h0, if_neg h1, if_neg h2, if_neg h3, if_neg h4, if_neg h5, if_neg h6]
  have ne : ∀ n : List UInt8, u ≠ n → (Lit.string u) ≠ .string n := fun n h e => h (by injection e)
  unfold unitsD uput
  rw [Maps.atKey_put_other (ne _ h6), Maps.atKey_put_other (ne _ h5), Maps.atKey_put_other (ne _ h4), Maps.atKey_put_other (ne _ h3), Maps.atKey_put_other (ne _ h2), Maps.atKey_put_other (ne _ h1), Maps.atKey_put_other (ne _ h0)]
  rfl
theorem has_units (u : List UInt8) : Maps.has unitsD (.string u) = (unitT u).isSome := by
  unfold unitT
  by_cases h0 : u = [109, 115]
  · subst h0; rfl
  by_cases h1 : u = [115]
  · subst h1; rfl
  by_cases h2 : u = [109]
  · subst h2; rfl
  by_cases h3 : u = [104]
  · subst h3; rfl
  by_cases h4 : u = [100]
  · subst h4; rfl
  by_cases h5 : u = [119]
  · subst h5; rfl
  by_cases h6 : u = [121]
  · subst h6; rfl
  rw [if_neg h0, if_neg h1, if_neg h2, if_neg h3, if_neg h4, if_neg h5, if_neg h6]
  have ne : ∀ n : List UInt8, u ≠ n → (Lit.string u) ≠ .string n := fun n h e => h (by injection e)
  unfold unitsD uput
  rw [Maps.has_put_other (ne _ h6), Maps.has_put_other (ne _ h5), Maps.has_put_other (ne _ h4), Maps.has_put_other (ne _ h3), Maps.has_put_other (ne _ h2), Maps.has_put_other (ne _ h1), Maps.has_put_other (ne _ h0)]
  rfl
theorem zeroUnit (w : World) : (zeroValue 109).run Tryd.prog w = .ok (.agg #[.int .i64 0, .int .u64 0]) w := by kernel_rfl
theorem keyedS : Keyed Tryd.prog 9 := string_keyed Tryd.underlying9
theorem two_cells {W : World} {k t : Nat} {a b : Value} (h : W.heap[k]? = some (.cells #[a, b] t (0, 0))) : W.cell? ⟨k, 0, none⟩ = some a ∧ W.cell? ⟨k, 1, none⟩ = some b ∧ ∀ j, W.frozen? ⟨k, j, none⟩ = false :=
  ⟨by rw [Lib.cell_of_heap h]; rfl, by rw [Lib.cell_of_heap h]; rfl, fun j => by simp [World.frozen?, h]⟩
theorem two_set {W : World} {k t : Nat} {a b : Value} (h : W.heap[k]? = some (.cells #[a, b] t (0, 0))) (x y : Value) : ((W.setCell ⟨k, 0, none⟩ x).setCell ⟨k, 1, none⟩ y).heap[k]? = some (.cells #[x, y] t (0, 0)) := by
  simp [World.setCell, Array.getElem?_modify, h]
set_option maxRecDepth 100000 in
set_option maxHeartbeats 1600000 in
theorem unitMap_calls (u : ByteArray) (hu : u.size ≤ 1000000) (w : World) :
    Calls Tryd.prog 73 #[.string u] w fun e w' => e = .returned (.tuple #[.agg #[.int .i64 (unitP u.data.toList).1, .int .u64 (unitP u.data.toList).2], .bool (unitT u.data.toList).isSome]) ∧ Below w.heap.size w w' := by
  have hmm := @run_makeMap Tryd.prog
  have hut := Tryd.underlying109
  have HK : Aside0 (keyOf Tryd.prog 9 (.string u) = some (.string u.data.toList)) := ⟨WideMaps.keyOf_string_mk Tryd.underlying9 (by unfold maxLen; omega)⟩
  have HKS : Aside0 (∀ s : ByteArray, s.size ≤ 2 → keyOf Tryd.prog 9 (.string s) = some (.string s.data.toList)) := ⟨fun s hs => WideMaps.keyOf_string_mk Tryd.underlying9 (by unfold maxLen; omega)⟩
  generalize hw1 : w.alloc (.cells #[.int .i64 0, .int .u64 0] 109) = w1
  have HB : Aside0 (Below w.heap.size w (w1.alloc (.map #[] 0))) := ⟨by rw [← hw1]; exact below_alloc (below_alloc (Below.refl w.heap.size w) _) _⟩
  have HC0 : Aside0 (w1.heap[w.heap.size]? = some (.cells #[.int .i64 0, .int .u64 0] 109 (0, 0)) ∧ w.heap.size < w1.heap.size) := ⟨by rw [← hw1]; exact ⟨heap_alloc_new w _, by simp⟩⟩
  have HC : Aside0 ((w1.alloc (.map #[] 0)).heap[w.heap.size]? = some (.cells #[.int .i64 0, .int .u64 0] 109 (0, 0))) := ⟨((below_alloc (Below.refl w1.heap.size w1) _).block _ HC0.out.2).trans HC0.out.1⟩
  have HO : Aside0 ((w1.alloc (.map #[] 0)).ownsMap Tryd.prog 9 unitE w1.heap.size 0 (.map [] : DataW Unit)) := ⟨World.ownsMap_made _ _ _ _⟩
  go_enter Tryd.func73, Tryd.ntmps73
  go_wp2_with (first
    | (refine wpList_insert_own _ rfl _ _ _ 145 rfl 9 109 keyedS Tryd.underlying145 unitE _ _ _ rfl HO.out (by unfold maxLen; omega) _ _ _ rfl rfl (HKS.out _ (by decide)) _ [] rfl ?_; intro w2 ho1 hg1; have HP := Aside0.mk ho1; have HB2 := Aside0.mk (Below.grown HB.out hg1 HB.out.size (fun j hj => by cases hj; exact Nat.le_of_lt HC0.out.2)); have HC2 := Aside0.mk ((hg1.block _ (Array.getElem?_eq_some_iff.1 HC.out).1 (fun e => by injection e with e; have := HC0.out.2; omega)).trans HC.out); clear HO HB HC ho1 hg1; have HO := HP; have HB := HB2; have HC := HC2; clear HP HB2 HC2)
    | (refine wpList_lookup_own_ok _ rfl _ _ 145 rfl 9 109 keyedS Tryd.underlying145 unitE (zeroUnit _) (.agg [.lit (.int .i64 0), .lit (.int .u64 0)]) [] rfl w1.heap.size 7 unitsD rfl HO.out _ _ rfl HK.out ?_; intro v ps hv; rw [at_units] at hv; rw [has_units]; obtain rfl := unitE_inv hv; clear hv; obtain ⟨c0, c1, f0⟩ := two_cells HC.out; have hlt2 := (Array.getElem?_eq_some_iff.1 HC.out).1; have hne2 := Nat.ne_of_lt hlt2))
  have hset := two_set HC.out (.int .i64 (unitP u.data.toList).1) (.int .u64 (unitP u.data.toList).2)
  have hsz : ((w2.setCell ⟨w.heap.size, 0, none⟩ (.int .i64 (unitP u.data.toList).1)).setCell ⟨w.heap.size, 1, none⟩ (.int .u64 (unitP u.data.toList).2)).heap.size = w2.heap.size := by simp [World.setCell]
  have hblk := ((below_alloc (Below.refl _ ((w2.setCell ⟨w.heap.size, 0, none⟩ (.int .i64 (unitP u.data.toList).1)).setCell ⟨w.heap.size, 1, none⟩ (.int .u64 (unitP u.data.toList).2))) (.cells #[.int .i64 (unitP u.data.toList).1, .int .u64 (unitP u.data.toList).2] 109)).block w.heap.size (by rw [hsz]; exact hlt2)).trans hset
  have hbel := below_alloc ((HB.out.setCell (p := ⟨w.heap.size, 0, none⟩) (Nat.le_refl _) (.int .i64 (unitP u.data.toList).1)).setCell (p := ⟨w.heap.size, 1, none⟩) (Nat.le_refl _) (.int .u64 (unitP u.data.toList).2)) (.cells #[.int .i64 (unitP u.data.toList).1, .int .u64 (unitP u.data.toList).2] 109)
  obtain ⟨r0, r1, -⟩ := two_cells hblk
  clear hset hsz hblk
  exact bodyPost_ret (v := .tuple #[.agg #[.int .i64 (unitP u.data.toList).1, .int .u64 (unitP u.data.toList).2], .bool (unitT u.data.toList).isSome]) (by simp [results, Tryd.results73, go_sem, r0, r1]) rfl ⟨rfl, hbel⟩
end Go.Proofs.YtmmcibeeojfplaaDoor.Q
