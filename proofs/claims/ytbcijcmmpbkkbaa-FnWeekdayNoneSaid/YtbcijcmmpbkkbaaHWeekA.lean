/- The days of the week by number: what impl.WeekdayText returns. No condition beyond the numbers' range. -/
import Derived.Test.YtbcijcmmpbkkbaaHScheme
import Derived.Maps.OwnSet
import Derived.Deep.RegionWith
import Derived.Maps.StringElems
namespace Go.Proofs.Ytbcijcmmpbkkbaa.Q
open Go.RowKit Go.Proofs.YtbcijcmmpbkkbaaW.PrintWords Go.Proofs.YtbcijcmmpbkkbaaW.PrintLast Go.Proofs.YtbcijcmmpbkkbaaW.PrintMore
open Go.Maps (Keyed int_keyed keyOf_int_mk)
attribute [local go_sem] max2_int min2_int max_two min_two max_three min_three max_four min_four
theorem wpList_insert_own {H : Type} {P : Program} (w : World) {ops : Array Oper} {rest : List Oper} {o : Oper} {a : Act} {Q : Exit → Act → World → Prop}
    (hg : o.guard = none) (m x v : Operand) (t : TypeId) (hop : o.op = Op.insert t m x v)
    (k e : TypeId) (K : Keyed P k) (ht : P.underlying t = some (.map k e)) (R : Value → Option (DataW H × List MemPlace)) (b n : Nat) (D : DataW H)
    (hm : a.eval m = .map (some b)) (hown : w.ownsMap P k R b n D) (hn : n < maxLen) (key val : Value) (kl : Lit) (hx : a.eval x = key) (hv : a.eval v = val) (hkey : keyOf P k key = some kl)
    (d : DataW H) (ps : List MemPlace) (hval : R val = some (d, ps))
    (hK : ∀ w', w'.ownsMap P k R b (n + 1) (D.put kl d) → w.grownBy w' (some b) → wpList P ops Q rest (a.put o.dst undef) w') :
    wpList P ops Q (o :: rest) a w := by
  refine wpList_plain hg fun K' hK' => ?_
  obtain ⟨w', hrun, r1, r2⟩ := hown.update K ht hn hkey hval
  unfold Oper.wp
  simp [execOp, hop, hm, hx, hv, hrun, Result.andThen]
  exact hK' _ _ (hK w' r1 r2)
theorem blkW {w : World} {o : Obj} {g : Nat} (h : g = w.heap.size) : (w.alloc o).drew.heap[g]? = some o := by subst h; exact blk_new w o
def dSun : ByteArray := ⟨#[115, 117, 110, 100, 97, 121]⟩
def dMon : ByteArray := ⟨#[109, 111, 110, 100, 97, 121]⟩
def dTue : ByteArray := ⟨#[116, 117, 101, 115, 100, 97, 121]⟩
def dWed : ByteArray := ⟨#[119, 101, 100, 110, 101, 115, 100, 97, 121]⟩
def dThu : ByteArray := ⟨#[116, 104, 117, 114, 115, 100, 97, 121]⟩
def dFri : ByteArray := ⟨#[102, 114, 105, 100, 97, 121]⟩
def dSat : ByteArray := ⟨#[115, 97, 116, 117, 114, 100, 97, 121]⟩
def dput (D : DataW Unit) (n : Int) (s : ByteArray) : DataW Unit := D.put (.int .i64 n) (.lit (.string s.data.toList))
def daysD : DataW Unit := dput (dput (dput (dput (dput (dput (dput (.map []) 0 dSun) 1 dMon) 2 dTue) 3 dWed) 4 dThu) 5 dFri) 6 dSat
theorem keyedI : Keyed Try.prog 3 := int_keyed Try.underlying3
set_option maxRecDepth 100000 in
set_option maxHeartbeats 800000 in
theorem days_calls (w : World) : Calls Try.prog 65 #[] w fun e w' => ∃ b, e = .returned (.map (some b)) ∧ w.heap.size ≤ b ∧ w'.ownsMap Try.prog 3 (plainElem Try.prog 9) b 7 daysD ∧ Below w.heap.size w w' := by
  have hmm := @run_makeMap Try.prog
  go_enter Try.func65, Try.ntmps65
  have HO : Aside0 ((w.alloc (.map #[] 0)).ownsMap Try.prog 3 (plainElem Try.prog 9) w.heap.size 0 (.map [] : DataW Unit)) := ⟨World.ownsMap_made _ _ _ _⟩
  have HB := Aside0.mk (below_alloc (Below.refl w.heap.size w) (.map #[] 0))
  go_wp2_with (refine wpList_insert_own _ rfl _ _ _ 110 rfl 3 9 keyedI Try.underlying110 (plainElem Try.prog 9) _ _ _ rfl HO.out (by unfold maxLen; omega) _ _ _ rfl rfl (keyOf_int_mk Try.underlying3 (by decide)) _ [] (plainElem_string Try.underlying9 (by unfold maxLen; decide)) ?_; intro w1 ho1 hg1; have HP := Aside0.mk ho1; have HB2 := Aside0.mk (Below.grown HB.out hg1 HB.out.size (fun j hj => by cases hj; exact Nat.le_refl _)); clear HO HB ho1 hg1; have HO := HP; have HB := HB2; clear HP HB2)
  go_ret
  exact ⟨_, rfl, Nat.le_refl _, HO.out, HB.out⟩
def inWeek (n : Int) : Bool := decide (0 ≤ n ∧ n ≤ 6)
theorem has_days (n : Int) : Maps.has daysD (.int .i64 n) = inWeek n := by
  have e : Maps.has daysD (.int .i64 n) = ((0 : Int) == n || ((1 : Int) == n || ((2 : Int) == n || ((3 : Int) == n || ((4 : Int) == n || ((5 : Int) == n || ((6 : Int) == n || false))))))) := by
    simp [daysD, dput, DataW.put, DataW.insert, Maps.has_eq, Lit.sameKey, Lit.before]
    simp only [← Bool.beq_eq_decide_eq]
  rw [e]
  unfold inWeek
  refine Bool.eq_iff_iff.2 ?_
  simp
  omega
theorem zeroStr (w : World) : (zeroValue 9).run Try.prog w = .ok (.string ⟨#[]⟩) w := by kernel_rfl
def dayS (n : Int) : ByteArray := if n = 0 then dSun else if n = 1 then dMon else if n = 2 then dTue else if n = 3 then dWed else if n = 4 then dThu else if n = 5 then dFri else if n = 6 then dSat else ⟨#[]⟩
set_option maxRecDepth 100000 in
theorem at_days (a : Int) : daysD.atKey (.int .i64 a) (.lit (.string [])) = .lit (.string (dayS a).data.toList) := by
  unfold dayS
  by_cases h0 : a = 0
  · subst h0; rfl
  by_cases h1 : a = 1
  · subst h1; rfl
  by_cases h2 : a = 2
  · subst h2; rfl
  by_cases h3 : a = 3
  · subst h3; rfl
  by_cases h4 : a = 4
  · subst h4; rfl
  by_cases h5 : a = 5
  · subst h5; rfl
  by_cases h6 : a = 6
  · subst h6; rfl
  rw [if_neg h0, if_neg h1, if_neg h2, if_neg h3, if_neg h4, if_neg h5, if_neg h6]
  have ne : ∀ n : Int, a ≠ n → (Lit.int .i64 a) ≠ .int .i64 n := fun n h e => h (by injection e)
  unfold daysD dput
  rw [Maps.atKey_put_other (ne _ h6), Maps.atKey_put_other (ne _ h5), Maps.atKey_put_other (ne _ h4), Maps.atKey_put_other (ne _ h3), Maps.atKey_put_other (ne _ h2), Maps.atKey_put_other (ne _ h1), Maps.atKey_put_other (ne _ h0)]
  rfl
set_option maxRecDepth 100000 in
theorem look_day (w : World) (b : Nat) (ho : w.ownsMap Try.prog 3 (plainElem Try.prog 9) b 7 daysD) (a : Int) (hk : keyOf Try.prog 3 (.int .i64 a) = some (.int .i64 a)) :
    (Instr.lookup 110 (.map (some b)) (.int .i64 a) true).run Try.prog w = .ok (.tuple #[.string (dayS a), .bool (inWeek a)]) w := by
  obtain ⟨v, ps, hrun, hv⟩ := World.ownsMap.look_ok (zd := (.lit (.string []) : DataW Unit)) (zp := []) ho keyedI Try.underlying110 (zeroStr _) (plainElem_string (H := Unit) Try.underlying9 (s := ⟨#[]⟩) (Nat.zero_le _)) hk
  rw [has_days] at hrun
  obtain ⟨s, rfl, hz, _⟩ := plainElem_string_inv Try.underlying9 hv
  rw [hrun]
  have hd : (.lit (.string (dayS a).data.toList) : DataW Unit) = .lit (.string s.data.toList) := (at_days a).symm.trans (Prod.mk.inj hz).1
  have hd2 : (dayS a).data.toList = s.data.toList := by injection hd with h1; injection h1
  have hd3 : dayS a = s := by
    have e : ∀ x : ByteArray, (⟨x.data.toList.toArray⟩ : ByteArray) = x := fun x => by cases x; simp
    rw [← e (dayS a), hd2, e]
  rw [hd3]
def BytesAt (w : World) (g : Nat) (s : ByteArray) : Prop := ∀ j (hj : j < s.data.toList.length), w.cell? ((⟨g, 0, none⟩ : Addr).add j) = some (.int .u8 (s.data.toList[j].toNat : Int))
def weekS (a b : Int) : ByteArray := if a = b then dayS a else dayS a ++ ⟨#[58]⟩ ++ dayS b
theorem day_size (a : Int) : (dayS a).size ≤ 9 := by
  unfold dayS
  repeat' split
  all_goals decide
theorem bytes_at (w : World) (s : ByteArray) (c t : Nat) (fr : Nat × Nat) : BytesAt (w.alloc (.cells (bytesRow s c) t fr)) w.heap.size s := by
  intro j hj
  have hj' : j < s.data.size := by simpa using hj
  have e : (⟨w.heap.size, 0, none⟩ : Addr).add j = ⟨w.heap.size, j, none⟩ := by unfold Addr.add; split <;> simp_all
  rw [e, World.cell?_alloc_mark, bytesRow_at s c j hj']
  simp
theorem size_len (x : ByteArray) : x.size = x.data.toList.length := Array.length_toList.symm
theorem size_cat (x y : ByteArray) : x.size + 1 + y.size = (x ++ ⟨#[58]⟩ ++ y).data.toList.length := by
  rw [← size_len, ByteArray.size_append, ByteArray.size_append]; rfl
def BytesV (w : World) (v : Value) (s : ByteArray) : Prop := ∃ g c n, v = .slice (some ⟨g, 0, none⟩) n c ∧ n = s.data.toList.length ∧ BytesAt w g s
end Go.Proofs.Ytbcijcmmpbkkbaa.Q
