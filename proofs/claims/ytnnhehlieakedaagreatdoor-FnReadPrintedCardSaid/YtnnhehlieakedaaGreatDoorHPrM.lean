/- Which characters package labels holds for reserved: its isReserved, zzContainsRune. Condition: the library's tables as it lays them. The text of a matcher's type. Condition: a type of equality. The text of a matcher: labels.Matcher.String, impl.PrintMatcher. Condition: a type of equality; a name and a value of at most 100000 bytes; the library's tables as it lays them. The matchers of the program as matchers of the library: what impl.inner and impl.inners return; comparing and matching them. No condition beyond the lengths named. The texts of a matcher and of a list of matchers: impl.PrintMatcher, impl.PrintMatchers. Condition: types of equality, names and values of at most 65536 bytes, at most 65536 matchers; the library's tables as it lays them. Which matchers are plain: laws.simple, laws.plain, laws.allPlain. No condition. -/
import Derived.Test.YtnnhehlieakedaaGreatDoorHLexM
import Derived.WalkLawsBesides
import Derived.Lib.OthersKept
import Derived.Test.YtnnhehlieakedaaGreatDoorHTabM
import Derived.Maps.OwnSet
import Derived.Maps.StringElems
import Derived.Deep.RegionWith
import Derived.Test.YtnnhehlieakedaaGreatDoorHSPri
import Derived.Test.YtnnhehlieakedaaGreatDoorQlabelsopenMetricsEscape
import Derived.Test.YtnnhehlieakedaaGreatDoorHParseM
import Derived.Lib.PrintData
import Derived.Deep.RegionHeld3
import Derived.Test.YtnnhehlieakedaaGreatDoorHKinds
import Derived.Lib.BufferKept
import Derived.Lib.BufferOld
import Derived.Lib.BufferWrite
namespace Go.Proofs.YtnnhehlieakedaaGreatDoor.Q
open Go.RowKit Go.Lib Go.Proofs.YtnnhehlieakedaaGreatDoorW.PrintWords Go.Proofs.YtnnhehlieakedaaGreatDoorW.PrintLast Go.Proofs.YtnnhehlieakedaaGreatDoorW.PrintMore
attribute [local go_sem] max2_int min2_int max_two min_two max_three min_three max_four min_four
set_option maxRecDepth 100000 in
set_option maxHeartbeats 1000000 in
theorem idx_callsL (s : ByteArray) (r : Int) (w : World) : Calls Tryz.prog 95 #[.string s, .int .i32 r] w (IdxIs s r w) := by
  have HBW := Aside0.mk (Below.refl w.heap.size w)
  cases hk : okR r
  · have HO : Aside0 (hasR s r = false) := ⟨by unfold hasR; rw [hk]; rfl⟩
    obtain ⟨h1, h2⟩ := okR_false hk
    have b1 : (r == 65533) = false := beq_eq_false_iff_ne.2 h1
    have b2 : (r != 65533) = true := bne_iff_ne.2 h1
    by_cases h0 : r < 0
    · have d0 : decide (r < 0) = true := decide_eq_true h0
      clear hk h1 h2
      go_enter Tryz.func95, Tryz.ntmps95
      go_wp2
      go_ret
      exact ⟨-1, rfl, by rw [HO.out]; rfl, HBW.out⟩
    · have d0 : decide (r < 0) = false := decide_eq_false h0
      by_cases h3 : 1114111 < r
      · have d3 : decide (1114111 < r) = true := decide_eq_true h3
        clear hk h1 h2
        go_enter Tryz.func95, Tryz.ntmps95
        go_wp2
        go_ret
        exact ⟨-1, rfl, by rw [HO.out]; rfl, HBW.out⟩
      · have d3 : decide (1114111 < r) = false := decide_eq_false h3
        have d4 : decide (55296 ≤ r) = true := decide_eq_true (by omega)
        have d5 : decide (r ≤ 57343) = true := decide_eq_true (by omega)
        clear hk h1 h2
        go_enter Tryz.func95, Tryz.ntmps95
        go_wp2
        go_ret
        exact ⟨-1, rfl, by rw [HO.out]; rfl, HBW.out⟩
  · have HO : Aside0 (hasR s r = (runesI s 0).any fun c => decide ((c : Int) = r)) := ⟨by unfold hasR; rw [hk]; rfl⟩
    have hg : (r != 65533 && (decide (r < 0) || decide (1114111 < r) || (decide (55296 ≤ r) && decide (r ≤ 57343)))) = false := by
      unfold okR at hk
      simp at hk ⊢
      omega
    clear hk
    have hpick : r = 65533 ∨ (¬ r = 65533 ∧ ¬ r < 0 ∧ ¬ 1114111 < r ∧ (¬ 55296 ≤ r ∨ ¬ r ≤ 57343)) := by
      simp at hg
      omega
    clear hg
    rcases hpick with h1 | ⟨h1, h2, h3, h4⟩
    · have b2 : (r != 65533) = false := bne_eq_false_iff_eq.2 h1
      clear h1
      go_enter Tryz.func95, Tryz.ntmps95
      go_wp2
      go_loopw [] (fun w' => ∃ pos : Nat, pos ≤ s.size ∧ Aside0 ((runesI s pos).any (fun c => decide ((c : Int) = r)) = (runesI s 0).any fun c => decide ((c : Int) = r)) ∧ Aside0 (w'.heap[w.heap.size]? = some (.stringIter s pos)) ∧ Aside0 (Below w.heap.size w w')) (fun w' => s.size - w'.iterPos w.heap.size)
      case atStart => exact ⟨0, Nat.zero_le _, ⟨rfl⟩, ⟨World.iter_heap w s 0⟩, ⟨below_alloc HBW.out _⟩⟩
      case round =>
        obtain ⟨pos, hpos, HL, HI, HB⟩ := hrel
        have hm : wr.iterPos w.heap.size = pos := by simp [World.iterPos, HI.out]
        by_cases hp : pos < s.size
        · have hnx : ∀ ty, (Instr.next (.pointer (some ⟨w.heap.size, 0, none⟩)) true ty).run Tryz.prog wr = _ := fun ty => Lib.run_next_any_at wr w.heap.size s pos ty HI.out hp
          have hI2 := Aside0.mk (Lib.iterAt_heap wr w.heap.size s pos (pos + (Utf8.decode s pos).2) HI.out)
          have hB2 := Aside0.mk (Lib.below_iterAt HB.out (Nat.le_refl _) s (pos + (Utf8.decode s pos).2))
          have hf := decode_fits s pos hp
          have HG := Aside0.mk (runesI_go s pos hp)
          have HM := Aside0.mk hm
          clear hm
          generalize hdec : Utf8.decode s pos = d at *
          obtain ⟨c, wd⟩ := d
          simp only at hf hI2 hB2 hnx HG
          have HR : Aside0 (∀ w2 : World, w2.heap[w.heap.size]? = some (.stringIter s (pos + wd)) → s.size - w2.iterPos w.heap.size < s.size - wr.iterPos w.heap.size) := ⟨fun w2 h2 => by
            have h3 : w2.iterPos w.heap.size = pos + wd := by simp [World.iterPos, h2]
            rw [h3, HM.out]
            omega⟩
          clear hdec
          by_cases hc : (c : Int) = r
          · have bc : ((c : Int) == r) = true := beq_iff_eq.2 hc
            have HA : Aside0 (((runesI s 0).any fun c => decide ((c : Int) = r)) = true) := ⟨by rw [← HL.out, HG.out]; simp [hc]⟩
            clear hc
            go_wp2
            go_ret
            exact ⟨(pos : Int), rfl, by rw [HO.out, HA.out]; simp, hB2.out⟩
          · have bc : ((c : Int) == r) = false := beq_eq_false_iff_ne.2 hc
            have HA : Aside0 ((runesI s (pos + wd)).any (fun c => decide ((c : Int) = r)) = (runesI s 0).any fun c => decide ((c : Int) = r)) := ⟨by rw [← HL.out, HG.out]; simp [hc]⟩
            clear hc
            go_wp2
            go_roundw
            case rel => exact ⟨pos + wd, hf.2, HA, hI2, hB2⟩
            case measure => exact HR.out _ hI2.out
        · have hnx : ∀ ty, (Instr.next (.pointer (some ⟨w.heap.size, 0, none⟩)) true ty).run Tryz.prog wr = _ := fun ty => Lib.run_next_end_at wr w.heap.size s pos ty HI.out hp
          have HA : Aside0 (((runesI s 0).any fun c => decide ((c : Int) = r)) = false) := ⟨by rw [← HL.out, runesI_end s pos hp]; rfl⟩
          clear hm hp
          go_wp2
          go_ret
          exact ⟨-1, rfl, by rw [HO.out, HA.out]; rfl, HB.out⟩
    · have b2 : (r != 65533) = true := bne_iff_ne.2 h1
      have d0 : decide (r < 0) = false := decide_eq_false h2
      have d3 : decide (1114111 < r) = false := decide_eq_false h3
      by_cases h5 : 55296 ≤ r
      · have d4 : decide (55296 ≤ r) = true := decide_eq_true h5
        have d5 : decide (r ≤ 57343) = false := decide_eq_false (by omega)
        clear h1 h2 h3 h4 h5
        go_enter Tryz.func95, Tryz.ntmps95
        go_wp2
        go_loopw [] (fun w' => ∃ pos : Nat, pos ≤ s.size ∧ Aside0 ((runesI s pos).any (fun c => decide ((c : Int) = r)) = (runesI s 0).any fun c => decide ((c : Int) = r)) ∧ Aside0 (w'.heap[w.heap.size]? = some (.stringIter s pos)) ∧ Aside0 (Below w.heap.size w w')) (fun w' => s.size - w'.iterPos w.heap.size)
        case atStart => exact ⟨0, Nat.zero_le _, ⟨rfl⟩, ⟨World.iter_heap w s 0⟩, ⟨below_alloc HBW.out _⟩⟩
        case round =>
          obtain ⟨pos, hpos, HL, HI, HB⟩ := hrel
          have hm : wr.iterPos w.heap.size = pos := by simp [World.iterPos, HI.out]
          by_cases hp : pos < s.size
          · have hnx : ∀ ty, (Instr.next (.pointer (some ⟨w.heap.size, 0, none⟩)) true ty).run Tryz.prog wr = _ := fun ty => Lib.run_next_any_at wr w.heap.size s pos ty HI.out hp
            have hI2 := Aside0.mk (Lib.iterAt_heap wr w.heap.size s pos (pos + (Utf8.decode s pos).2) HI.out)
            have hB2 := Aside0.mk (Lib.below_iterAt HB.out (Nat.le_refl _) s (pos + (Utf8.decode s pos).2))
            have hf := decode_fits s pos hp
            have HG := Aside0.mk (runesI_go s pos hp)
            have HM := Aside0.mk hm
            clear hm
            generalize hdec : Utf8.decode s pos = d at *
            obtain ⟨c, wd⟩ := d
            simp only at hf hI2 hB2 hnx HG
            have HR : Aside0 (∀ w2 : World, w2.heap[w.heap.size]? = some (.stringIter s (pos + wd)) → s.size - w2.iterPos w.heap.size < s.size - wr.iterPos w.heap.size) := ⟨fun w2 h2 => by
              have h3 : w2.iterPos w.heap.size = pos + wd := by simp [World.iterPos, h2]
              rw [h3, HM.out]
              omega⟩
            clear hdec
            by_cases hc : (c : Int) = r
            · have bc : ((c : Int) == r) = true := beq_iff_eq.2 hc
              have HA : Aside0 (((runesI s 0).any fun c => decide ((c : Int) = r)) = true) := ⟨by rw [← HL.out, HG.out]; simp [hc]⟩
              clear hc
              go_wp2
              go_ret
              exact ⟨(pos : Int), rfl, by rw [HO.out, HA.out]; simp, hB2.out⟩
            · have bc : ((c : Int) == r) = false := beq_eq_false_iff_ne.2 hc
              have HA : Aside0 ((runesI s (pos + wd)).any (fun c => decide ((c : Int) = r)) = (runesI s 0).any fun c => decide ((c : Int) = r)) := ⟨by rw [← HL.out, HG.out]; simp [hc]⟩
              clear hc
              go_wp2
              go_roundw
              case rel => exact ⟨pos + wd, hf.2, HA, hI2, hB2⟩
              case measure => exact HR.out _ hI2.out
          · have hnx : ∀ ty, (Instr.next (.pointer (some ⟨w.heap.size, 0, none⟩)) true ty).run Tryz.prog wr = _ := fun ty => Lib.run_next_end_at wr w.heap.size s pos ty HI.out hp
            have HA : Aside0 (((runesI s 0).any fun c => decide ((c : Int) = r)) = false) := ⟨by rw [← HL.out, runesI_end s pos hp]; rfl⟩
            clear hm hp
            go_wp2
            go_ret
            exact ⟨-1, rfl, by rw [HO.out, HA.out]; rfl, HB.out⟩
      · have d4 : decide (55296 ≤ r) = false := decide_eq_false h5
        clear h1 h2 h3 h4 h5
        go_enter Tryz.func95, Tryz.ntmps95
        go_wp2
        go_loopw [] (fun w' => ∃ pos : Nat, pos ≤ s.size ∧ Aside0 ((runesI s pos).any (fun c => decide ((c : Int) = r)) = (runesI s 0).any fun c => decide ((c : Int) = r)) ∧ Aside0 (w'.heap[w.heap.size]? = some (.stringIter s pos)) ∧ Aside0 (Below w.heap.size w w')) (fun w' => s.size - w'.iterPos w.heap.size)
        case atStart => exact ⟨0, Nat.zero_le _, ⟨rfl⟩, ⟨World.iter_heap w s 0⟩, ⟨below_alloc HBW.out _⟩⟩
        case round =>
          obtain ⟨pos, hpos, HL, HI, HB⟩ := hrel
          have hm : wr.iterPos w.heap.size = pos := by simp [World.iterPos, HI.out]
          by_cases hp : pos < s.size
          · have hnx : ∀ ty, (Instr.next (.pointer (some ⟨w.heap.size, 0, none⟩)) true ty).run Tryz.prog wr = _ := fun ty => Lib.run_next_any_at wr w.heap.size s pos ty HI.out hp
            have hI2 := Aside0.mk (Lib.iterAt_heap wr w.heap.size s pos (pos + (Utf8.decode s pos).2) HI.out)
            have hB2 := Aside0.mk (Lib.below_iterAt HB.out (Nat.le_refl _) s (pos + (Utf8.decode s pos).2))
            have hf := decode_fits s pos hp
            have HG := Aside0.mk (runesI_go s pos hp)
            have HM := Aside0.mk hm
            clear hm
            generalize hdec : Utf8.decode s pos = d at *
            obtain ⟨c, wd⟩ := d
            simp only at hf hI2 hB2 hnx HG
            have HR : Aside0 (∀ w2 : World, w2.heap[w.heap.size]? = some (.stringIter s (pos + wd)) → s.size - w2.iterPos w.heap.size < s.size - wr.iterPos w.heap.size) := ⟨fun w2 h2 => by
              have h3 : w2.iterPos w.heap.size = pos + wd := by simp [World.iterPos, h2]
              rw [h3, HM.out]
              omega⟩
            clear hdec
            by_cases hc : (c : Int) = r
            · have bc : ((c : Int) == r) = true := beq_iff_eq.2 hc
              have HA : Aside0 (((runesI s 0).any fun c => decide ((c : Int) = r)) = true) := ⟨by rw [← HL.out, HG.out]; simp [hc]⟩
              clear hc
              go_wp2
              go_ret
              exact ⟨(pos : Int), rfl, by rw [HO.out, HA.out]; simp, hB2.out⟩
            · have bc : ((c : Int) == r) = false := beq_eq_false_iff_ne.2 hc
              have HA : Aside0 ((runesI s (pos + wd)).any (fun c => decide ((c : Int) = r)) = (runesI s 0).any fun c => decide ((c : Int) = r)) := ⟨by rw [← HL.out, HG.out]; simp [hc]⟩
              clear hc
              go_wp2
              go_roundw
              case rel => exact ⟨pos + wd, hf.2, HA, hI2, hB2⟩
              case measure => exact HR.out _ hI2.out
          · have hnx : ∀ ty, (Instr.next (.pointer (some ⟨w.heap.size, 0, none⟩)) true ty).run Tryz.prog wr = _ := fun ty => Lib.run_next_end_at wr w.heap.size s pos ty HI.out hp
            have HA : Aside0 (((runesI s 0).any fun c => decide ((c : Int) = r)) = false) := ⟨by rw [← HL.out, runesI_end s pos hp]; rfl⟩
            clear hm hp
            go_wp2
            go_ret
            exact ⟨-1, rfl, by rw [HO.out, HA.out]; rfl, HB.out⟩
theorem contains_callsL (s : ByteArray) (r : Int) (w : World) : Calls Tryz.prog 77 #[.string s, .int .i32 r] w fun e w' => e = .returned (.bool (hasR s r)) ∧ Below w.heap.size w w' := by
  go_enter Tryz.func77, Tryz.ntmps77
  go_wp2_with fail
  refine (idx_callsL s r _).mono ?_
  rintro e w' ⟨n, rfl, hn, hb⟩
  have HN := Aside0.mk hn
  have HB := Aside0.mk hb
  clear hb hn
  go_wp2
  go_ret
  exact ⟨by rw [← HN.out]; rfl, HB.out⟩
theorem isReserved_callsL (r : Int) (w : World) (h0 : -2147483648 ≤ r) (h1 : r ≤ 2147483647) (tb : TBl w) :
    Calls Tryz.prog 56 #[.int .i32 r] w fun e w' => e = .returned (.bool (resR r)) ∧ Below w.heap.size w w' := by
  have HT := Aside0.mk tb
  clear tb
  unfold resR
  cases hs : Lib.isSpaceZ r
  · have HS := Aside0.mk hs
    clear hs
    go_enter Tryz.func56, Tryz.ntmps56
    go_wp2_with (first | (go_at_call 76; refine (Tryz.unicode_IsSpace_any r _ h0 h1 HT.out.2).mono ?_; rintro e w1 ⟨rfl, hb⟩; rw [HS.out]; have HB := Aside0.mk hb; clear hb) | (go_at_call 77; refine (contains_callsL resC r _).mono ?_; rintro e w2 ⟨rfl, hb⟩; have HB2 := Aside0.mk (HB.out.trans (hb.mono HB.out.size)); clear hb))
    go_ret
    exact ⟨by simp, HB2.out⟩
  · have HS := Aside0.mk hs
    clear hs
    go_enter Tryz.func56, Tryz.ntmps56
    go_wp2_with (go_at_call 76; refine (Tryz.unicode_IsSpace_any r _ h0 h1 HT.out.2).mono ?_; rintro e w1 ⟨rfl, hb⟩; rw [HS.out]; have HB := Aside0.mk hb; clear hb)
    go_ret
    exact ⟨by simp, HB.out⟩
end Go.Proofs.YtnnhehlieakedaaGreatDoor.Q
set_option linter.unusedVariables false
set_option linter.unusedSimpArgs false
namespace Go.Proofs.YtnnhehlieakedaaGreatDoor.Q
open Go.RowKit Go.Proofs.YtnnhehlieakedaaGreatDoorW.PrintWords Go.Proofs.YtnnhehlieakedaaGreatDoorW.PrintLast Go.Proofs.YtnnhehlieakedaaGreatDoorW.PrintMore
open Go.Maps (Keyed int_keyed keyOf_int_mk)
attribute [local go_sem] max2_int min2_int max_two min_two max_three min_three max_four min_four
theorem wpList_insert_ownP {H : Type} {P : Program} (w : World) {ops : Array Oper} {rest : List Oper} {o : Oper} {a : Act} {Q : Exit → Act → World → Prop}
    (hg : o.guard = none) (m x v : Operand) (t : TypeId) (hop : o.op = Op.insert t m x v)
    (k e : TypeId) (K : Keyed P k) (ht : P.underlying t = some (.map k e)) (R : Value → Option (DataW H × List MemPlace)) (b n : Nat) (D : DataW H)
    (hm : a.eval m = .map (some b)) (hown : w.ownsMap P k R b n D) (hn : n < maxLen) (key val : Value) (kl : Lit) (hx : a.eval x = key) (hv : a.eval v = val) (hkey : keyOf P k key = some kl)
    (d : DataW H) (ps : List MemPlace) (hval : R val = some (d, ps))
    (hK : ∀ w', w'.ownsMap P k R b (n + 1) (D.put kl d) → w.grownBy w' (some b) → wpList P ops Q rest (a.put o.dst undef) w') :
    wpList P ops Q (o :: rest) a w := by
  refine wpList_plain hg fun K' hK' => ?_
  obtain ⟨w', hrun, r1, r2⟩ := hown.update K ht hn hkey hval
  unfold Oper.wp
  simp [execOp, hop, hm, hx, hv, hrun, Result.andThen]
  exact hK' _ _ (hK w' r1 r2)
def tput (D : DataW Unit) (n : Int) (s : ByteArray) : DataW Unit := D.put (.int .i64 n) (.lit (.string s.data.toList))
def tyD : DataW Unit := tput (tput (tput (tput (.map []) 0 ⟨#[61]⟩) 1 ⟨#[33, 61]⟩) 2 ⟨#[61, 126]⟩) 3 ⟨#[33, 126]⟩
/-- The text of a type of equality. -/
def tyS (a : Int) : ByteArray := if a = 0 then ⟨#[61]⟩ else ⟨#[33, 61]⟩
theorem keyedT : Keyed Tryz.prog 80 := int_keyed Tryz.underlying80
theorem zeroStrT (w : World) : (zeroValue 9).run Tryz.prog w = .ok (.string ⟨#[]⟩) w := by kernel_rfl
set_option maxRecDepth 100000 in
theorem look_ty (w : World) (b : Nat) (ho : w.ownsMap Tryz.prog 80 (plainElem Tryz.prog 9) b 4 tyD) (a : Int) (ha : a = 0 ∨ a = 1) :
    (Instr.lookup 133 (.map (some b)) (.int .i64 a) true).run Tryz.prog w = .ok (.tuple #[.string (tyS a), .bool true]) w := by
  have hk : keyOf Tryz.prog 80 (.int .i64 a) = some (.int .i64 a) := keyOf_int_mk Tryz.underlying80 (by rcases ha with rfl | rfl <;> decide)
  obtain ⟨v, ps, hrun, hv⟩ := World.ownsMap.look_ok (zd := (.lit (.string []) : DataW Unit)) (zp := []) ho keyedT Tryz.underlying133 (zeroStrT _) (plainElem_string (H := Unit) Tryz.underlying9 (s := ⟨#[]⟩) (Nat.zero_le _)) hk
  obtain ⟨s, rfl, hz, _⟩ := plainElem_string_inv Tryz.underlying9 hv
  have hh : Maps.has tyD (.int .i64 a) = true := by rcases ha with rfl | rfl <;> rfl
  have hat : tyD.atKey (.int .i64 a) (.lit (.string [])) = .lit (.string (tyS a).data.toList) := by rcases ha with rfl | rfl <;> rfl
  rw [hh] at hrun
  rw [hrun]
  have hd : (.lit (.string (tyS a).data.toList) : DataW Unit) = .lit (.string s.data.toList) := hat.symm.trans (Prod.mk.inj hz).1
  have hd2 : (tyS a).data.toList = s.data.toList := by injection hd with h1; injection h1
  have hd3 : tyS a = s := by
    have e : ∀ x : ByteArray, (⟨x.data.toList.toArray⟩ : ByteArray) = x := fun x => by cases x; simp
    rw [← e (tyS a), hd2, e]
  rw [hd3]
set_option maxRecDepth 100000 in
set_option maxHeartbeats 2000000 in
theorem tyS_calls (a : Int) (ha : a = 0 ∨ a = 1) (w : World) : Calls Tryz.prog 58 #[.int .i64 a] w fun e w' => e = .returned (.string (tyS a)) ∧ Below w.heap.size w w' := by
  have hmm := @run_makeMap Tryz.prog
  go_enter Tryz.func58, Tryz.ntmps58
  have HO : Aside0 ((w.alloc (.map #[] 0)).ownsMap Tryz.prog 80 (plainElem Tryz.prog 9) w.heap.size 0 (.map [] : DataW Unit)) := ⟨World.ownsMap_made _ _ _ _⟩
  have HB := Aside0.mk (below_alloc (Below.refl w.heap.size w) (.map #[] 0))
  go_wp2_with (refine wpList_insert_ownP _ rfl _ _ _ 133 rfl 80 9 keyedT Tryz.underlying133 (plainElem Tryz.prog 9) _ _ _ rfl HO.out (by unfold maxLen; omega) _ _ _ rfl rfl (keyOf_int_mk Tryz.underlying80 (by decide)) _ [] (plainElem_string Tryz.underlying9 (by unfold maxLen; decide)) ?_; intro w1 ho1 hg1; have HP := Aside0.mk ho1; have HB2 := Aside0.mk (Below.grown HB.out hg1 HB.out.size (fun j hj => by cases hj; exact Nat.le_refl _)); clear HO HB ho1 hg1; have HO := HP; have HB := HB2; clear HP HB2)
  rw [look_ty _ _ HO.out a ha]
  go_wp2
  go_ret
  exact ⟨rfl, HB.out⟩
end Go.Proofs.YtnnhehlieakedaaGreatDoor.Q
set_option linter.unusedVariables false
set_option linter.unusedSimpArgs false
namespace Go.Proofs.YtnnhehlieakedaaGreatDoor.Q
open Go.RowKit Go.Lib Go.Proofs.YtnnhehlieakedaaGreatDoorW.PrintWords Go.Proofs.YtnnhehlieakedaaGreatDoorW.PrintLast Go.Proofs.YtnnhehlieakedaaGreatDoorW.PrintMore
attribute [local go_sem] max2_int min2_int max_two min_two max_three min_three max_four min_four
/-- The escapes of a value. -/
def omeL : List UInt8 → List UInt8
  | [] => []
  | c :: t => (if c = 92 then [92, 92] else if c = 10 then [92, 110] else if c = 34 then [92, 34] else [c]) ++ omeL t
theorem omeL_len : ∀ l : List UInt8, (omeL l).length ≤ 2 * l.length
  | [] => Nat.le_refl _
  | c :: t => by
    have := omeL_len t
    rw [omeL, List.length_append, List.length_cons]
    have : (if c = 92 then [92, 92] else if c = 10 then [92, 110] else if c = 34 then [92, 34] else [c] : List UInt8).length ≤ 2 := by
      repeat' split
      all_goals simp
    omega
def intsP (l : List UInt8) : List Int := l.map fun c => (c.toNat : Int)
theorem strOf_ints (l : List UInt8) : strOfNums (intsP l) = mk l := by
  unfold strOfNums mk intsP
  congr 1
  simp [List.map_map, Function.comp_def]
theorem ome_step (X : ByteArray) (i : Nat) (acc : List Int) (c : UInt8) (hi : i < X.size) (hn : X.size ≤ 1000000) (ha : acc.length ≤ 3000000) (hc : bt X (i : Int) = (c.toNat : Int)) :
    ∀ k, labels_openMetricsEscape.l0 (k + 1) X acc (i : Int) = labels_openMetricsEscape.l0 k X (acc ++ intsP (if c = 92 then [92, 92] else if c = 10 then [92, 110] else if c = 34 then [92, 34] else [c])) ((i + 1 : Nat) : Int) := fun k => by
  have e : wrap64 ((i : Int) + 1) = ((i + 1 : Nat) : Int) := by clear hc; unfold wrap64; omega
  have h1 : (i : Int) < (X.size : Int) := by clear hc e; omega
  have l2 : acc.length + 2 < 140737488355328 := by clear hc e; omega
  have l1 : acc.length < 140737488355328 := by clear hc e; omega
  have cv : ∀ (n : Int) (d : UInt8), (d.toNat : Int) = n → (((c.toNat : Int) = n) ↔ c = d) := fun n d hd => ⟨fun h => UInt8.toNat_inj.1 (by clear hc e; omega), fun h => by rw [h, hd]⟩
  have c92 := cv 92 92 rfl
  have c10 := cv 10 10 rfl
  have c34 := cv 34 34 rfl
  rw [labels_openMetricsEscape.l0, if_pos h1, if_pos (Int.natCast_nonneg i), hc, e]
  by_cases h92 : c = 92
  · rw [if_pos (c92.2 h92), if_pos l2, if_pos h92]
    rfl
  rw [if_neg (fun h => h92 (c92.1 h)), if_neg h92]
  by_cases h10 : c = 10
  · rw [if_pos (c10.2 h10), if_pos l2, if_pos h10]
    rfl
  rw [if_neg (fun h => h10 (c10.1 h)), if_neg h10]
  by_cases h34 : c = 34
  · rw [if_pos (c34.2 h34), if_pos l2, if_pos h34]
    rfl
  rw [if_neg (fun h => h34 (c34.1 h)), if_neg h34, if_pos l1]
  rfl
theorem bt_getDP (l : List UInt8) (p : Nat) (h : p < l.length) : bt (mk l) (p : Int) = ((l.getD p 0).toNat : Int) := by
  rw [bt_mk l p h, List.getD_eq_getElem?_getD, List.getElem?_eq_getElem h]; rfl
theorem bt_getP (l : List UInt8) (p : Nat) (h : p < l.length) : bt (mk l) (p : Int) = ((l[p]'h).toNat : Int) := by
  rw [bt_getDP l p h, List.getD_eq_getElem?_getD, List.getElem?_eq_getElem h]
  rfl
theorem ome_from (l : List UInt8) (hl : l.length ≤ 1000000) : ∀ (d i k : Nat) (acc : List Int), i + d = l.length → d < k → acc.length ≤ 2 * i → labels_openMetricsEscape.l0 k (mk l) acc (i : Int) = some (strOfNums (acc ++ intsP (omeL (l.drop i))))
  | 0, i, k, acc, hi, hk, ha => by
    obtain ⟨k, rfl⟩ : ∃ j, k = j + 1 := ⟨k - 1, by omega⟩
    rw [labels_openMetricsEscape.l0, if_neg (by rw [mk_size]; omega), List.drop_of_length_le (by omega)]
    simp [omeL, intsP]
  | d + 1, i, k, acc, hi, hk, ha => by
    obtain ⟨k, rfl⟩ : ∃ j, k = j + 1 := ⟨k - 1, by omega⟩
    have hlt : i < l.length := by omega
    rw [ome_step (mk l) i acc l[i] (by rw [mk_size]; exact hlt) (by rw [mk_size]; exact hl) (by omega) (bt_getP l i hlt) k]
    have hlen : (intsP (if l[i] = 92 then [92, 92] else if l[i] = 10 then [92, 110] else if l[i] = 34 then [92, 34] else [l[i]])).length ≤ 2 := by
      unfold intsP
      rw [List.length_map]
      repeat' split
      all_goals simp
    rw [ome_from l hl d (i + 1) k _ (by omega) (by omega) (by rw [List.length_append]; omega), List.drop_eq_getElem_cons hlt, omeL]
    congr 2
    unfold intsP
    rw [List.map_append, List.append_assoc]
theorem ome_is (s : ByteArray) (hs : s.size ≤ 1000000) (k : Nat) (hk : s.size < k) : labels_openMetricsEscape.f k s = some (mk (omeL s.data.toList)) := by
  obtain ⟨l, rfl⟩ : ∃ l, s = mk l := ⟨s.data.toList, by cases s; rfl⟩
  rw [mk_size] at hs hk
  have := ome_from l hs l.length 0 k [] (by omega) hk (Nat.le_refl _)
  unfold labels_openMetricsEscape.f
  rw [show ((0 : Int)) = ((0 : Nat) : Int) by rfl, this, List.nil_append, strOf_ints, List.drop_zero]
  rfl
/-- Has a name a reserved character? -/
def hasRes (n : ByteArray) : Bool := decide (0 ≤ idxFunc (fun r => resR (r : Int)) true n)
def quoB (s : ByteArray) : ByteArray := strOfNums (quoteZ goPrintTabs s)
theorem quoB_size (s : ByteArray) : (quoB s).size ≤ 10 * s.size + 2 := by
  unfold quoB
  rw [strOfNums_size]
  exact quoteZ_length_le _ s
def escB (s : ByteArray) : ByteArray := mk (omeL s.data.toList)
theorem escB_size (s : ByteArray) : (escB s).size ≤ 2 * s.size := by
  unfold escB
  rw [mk_size]
  have := omeL_len s.data.toList
  rwa [show s.data.toList.length = s.size from Array.length_toList] at this
/-- The text of a matcher. -/
def prM (m : S25) : ByteArray := if hasRes m.f1 = true then quoB m.f1 ++ tyS m.f0 ++ quoB m.f2 else m.f1 ++ tyS m.f0 ++ ⟨#[34]⟩ ++ escB m.f2 ++ ⟨#[34]⟩
/-- The tables that printing and reading a matcher read. -/
def TBr (w : World) : Prop := TBq w ∧ PrintTabsAt 12 13 14 15 goPrintTabs w
theorem TabSlice.belowP {g : Nat} {k : IntKind} {t : List Nat} {w w' : World} (h : TabSlice g k t w) (hb : Below w.heap.size w w') : TabSlice g k t w' := by
  obtain ⟨R, o, c, h1, h2⟩ := h
  exact ⟨R, o, c, (hb.cell (World.block_lt_of_cell? _ _ h1)).trans h1, fun j hj => (hb.cell (World.block_lt_of_cell? _ _ (h2 j hj))).trans (h2 j hj)⟩
theorem TBr.below {w w' : World} (h : TBr w) (hb : Below w.heap.size w w') : TBr w' := ⟨h.1.below hb, TabSlice.belowP h.2.1 hb, TabSlice.belowP h.2.2.1 hb, TabSlice.belowP h.2.2.2.1 hb, TabSlice.belowP h.2.2.2.2.1 hb, h.2.2.2.2.2⟩
theorem TBr.q {w w' : World} (h : TBr w) (hb : Below w.heap.size w w') : TBq w' := h.1.below hb
theorem keepM {w0 W W' : World} {g : Nat} {a b c : Value} (h : W.cell? ⟨g, 0, none⟩ = some a ∧ W.cell? ⟨g, 1, none⟩ = some b ∧ W.cell? ⟨g, 2, none⟩ = some c ∧ Aside0 (Below w0.heap.size w0 W)) (hb : Below W.heap.size W W') : W'.cell? ⟨g, 0, none⟩ = some a ∧ W'.cell? ⟨g, 1, none⟩ = some b ∧ W'.cell? ⟨g, 2, none⟩ = some c ∧ Aside0 (Below w0.heap.size w0 W') :=
  ⟨(hb.cell (World.block_lt_of_cell? _ _ h.1)).trans h.1, (hb.cell (World.block_lt_of_cell? _ _ h.2.1)).trans h.2.1, (hb.cell (World.block_lt_of_cell? _ _ h.2.2.1)).trans h.2.2.1, ⟨below_step h.2.2.2.out hb⟩⟩
theorem predRes (w : World) (tb : TBl w) : PredGrows Tryz.prog 56 #[] (fun r => resR (r : Int)) w := fun W x hx hb =>
  isReserved_callsL (x : Int) W (by omega) (by omega) (tb.below hb)
theorem contains_res (s : ByteArray) (w : World) (tb : TBl w) : Calls Tryz.prog 55 #[.string s, .func (.func 56) #[] #[]] w fun e w' => e = .returned (.bool (hasRes s)) ∧ Below w.heap.size w w' :=
  Tryz.strings_ContainsFunc_grows 56 #[] (fun _ _ => enters_of Tryz.func56 (by kernel_rfl) rfl _ _) (fun r => resR (r : Int)) s w (predRes w tb)
theorem quote_calls (s : ByteArray) (hs : s.size ≤ 100000) (w : World) (tb : TBr w) : Calls Tryz.prog 57 #[.string s] w fun e w' => e = .returned (.string (quoB s)) ∧ Below w.heap.size w w' :=
  Tryz.strconv_Quote goPrintTabs s w (by omega) tb.2 tb.1.1.1
end Go.Proofs.YtnnhehlieakedaaGreatDoor.Q
namespace Go.Proofs.YtnnhehlieakedaaGreatDoor.Q
open Go.RowKit Go.Proofs.YtnnhehlieakedaaGreatDoorW.PrintWords Go.Proofs.YtnnhehlieakedaaGreatDoorW.PrintLast Go.Proofs.YtnnhehlieakedaaGreatDoorW.PrintMore
attribute [local go_sem] max2_int min2_int max_two min_two max_three min_three max_four min_four

set_option maxHeartbeats 400000 in
theorem inner_calls (a0 : Int) (a1 a2 : ByteArray) (w : World) :
    Calls Tryz.prog 34 #[.agg #[.int .i64 a0, .string a1, .string a2]] w fun e w' => ∃ g, e = .returned (.pointer (some ⟨g, 0, none⟩)) ∧ w.heap.size ≤ g ∧ w'.heap[g]? = some (.cells #[.int .i64 a0, .string a1, .string a2] 82 (0, 0)) ∧ Below w.heap.size w w' := by
  have hu30 := Tryz.underlying25
  have hu108 := Tryz.underlying82
  go_enter Tryz.func34, Tryz.ntmps34
  go_wp2
  go_ret
  exact ⟨w.heap.size + 1, rfl, by omega, by simpa using blk_new (w.alloc (.cells #[.int .i64 a0, .string a1, .string a2] 25)) (.cells #[.int .i64 a0, .string a1, .string a2] 82 (0, 0)), below_alloc (below_alloc (Below.refl _ _) _) _⟩

theorem take_step25 (l : List S25) (x : Int) (h0 : 0 ≤ x) (h1 : x < (l.length : Int)) : l.take (x + 1).toNat = l.take x.toNat ++ [rd_T25 l x] := by
  obtain ⟨n, rfl⟩ := Int.eq_ofNat_of_zero_le h0
  have e : ((n : Int) + 1).toNat = n + 1 := by omega
  rw [e, Int.toNat_natCast, List.take_succ_eq_append_getElem (by omega)]
  simp [rd_T25, List.getD_eq_getElem?_getD, List.getElem?_eq_getElem (show n < l.length by omega)]
theorem info48 : (Tryz.prog.info? 48).map (fun i => (i.zero, i.size, i.bytes)) = some (some (.pointer none), 1, 8) := by kernel_rfl

set_option maxRecDepth 100000 in
set_option maxHeartbeats 800000 in
theorem inners_calls (A0 : Option Addr) (c0 : Nat) (l0 : List S25) (w : World) (hr0 : Kd.C k25 w A0 l0.length l0) (_hc0 : l0.length ≤ c0) (hlen : l0.length ≤ 10000000000) :
    Calls Tryz.prog 31 #[.slice A0 l0.length c0] w fun e w' => ∃ v, e = .returned v ∧ Kd.R (ptrK 82 k25) 48 w' w.heap.size (fun _ => True) v l0 ∧ Below w.heap.size w w' := by
  have hu30 := Tryz.underlying25
  have HR0 := Aside0.mk hr0
  clear hr0
  have HB := Aside0.mk (Below.refl w.heap.size w)
  go_enter Tryz.func31, Tryz.ntmps31
  go_wp2
  go_loopw [3, 8] (fun v3 v8 w' => ∃ x : Int, 0 ≤ x ∧ x ≤ (l0.length : Int) ∧ v8 = .int .i64 x ∧ Aside0 (Kd.R (ptrK 82 k25) 48 w' w.heap.size (fun _ => True) v3 (l0.take x.toNat)) ∧ Aside0 (Below w.heap.size w w')) (fun _ v8 _ => ((l0.length : Int) - intOf v8).toNat)
  case atStart => exact ⟨0, by omega, by omega, rfl, ⟨by simpa using Kd.R_nil _ _ _ _ _⟩, HB⟩
  case round =>
    obtain ⟨x, hx, hxl, rfl, HO, HB⟩ := hrel
    by_cases hlt : x < (l0.length : Int)
    · obtain ⟨ad, e1, hx0, hx1, hx2⟩ := at_T25 HR0.out x hx hlt
      cases e1
      replace hx0 := (HB.out.cell (World.block_lt_of_cell? w _ hx0)).trans hx0
      replace hx1 := (HB.out.cell (World.block_lt_of_cell? w _ hx1)).trans hx1
      replace hx2 := (HB.out.cell (World.block_lt_of_cell? w _ hx2)).trans hx2
      have hp := eq_true hx
      have hq := eq_true hlt
      go_wp2_with fail
      refine (inner_calls _ _ _ _).mono ?_
      rintro e w1 ⟨g, rfl, hg, hgh, hb1⟩
      have HO1 := Aside0.mk (Kd.R_below (Kd.R_alloc HO.out _) hb1)
      have HB1 := Aside0.mk (below_step (below_alloc HB.out _) hb1)
      have GG := Aside0.mk hgh
      have hg' : w.heap.size ≤ g := by have := HB.out.size; simp at hg; omega
      have GE := Aside0.mk hg'
      clear HO HB hgh hg hg' hb1
      go_wp2_with (first | (at_builtin; refine Kd.R_append (ptrK 82 k25) (w0 := w) w.heap.size rfl (.tmp 12) (.tmp 15) 63 48 (.pointer none) 8 rfl Tryz.underlying63 info48 rfl (by decide) (by omega) u3 (l0.take x.toNat) (rd_T25 l0 x) [.pointer (some ⟨g, 0, none⟩)] (fun _ => True) (fun k => k = g) rfl (by first | (go_simp; done) | (go_simp; rfl)) ?aP ?aK (fun _ _ => trivial) HO1.out HB1.out ?aS ?aL ?_; (case aP => exact ⟨g, _, rfl, rfl, GE.out, GG.out, k25_mkM _ _ _ _⟩); (case aK => rintro k rfl; exact ⟨trivial, Kd.R_ne HO1.out GG.out (by decide)⟩); (case aS => exact HB1.out.size); (case aL => rw [List.length_take]; omega); intro v1 w2 ho hb hg2 hat; have HO2 := Aside0.mk ho; have HB2 := Aside0.mk hb; clear ho hb hg2 hat HO1 HB1))
      go_roundw
      case rel => exact ⟨x + 1, by omega, by omega, rfl, ⟨by rw [take_step25 l0 x hx hlt]; exact HO2.out⟩, HB2⟩
      case measure => simp [intOf]; omega
    · have hxe : x = (l0.length : Int) := by omega
      subst hxe
      go_wp2
      go_ret
      exact ⟨_, rfl, by simpa using HO.out, HB.out⟩
end Go.Proofs.YtnnhehlieakedaaGreatDoor.Q
set_option linter.unusedVariables false
set_option linter.unusedSimpArgs false
namespace Go.Proofs.YtnnhehlieakedaaGreatDoor.Q
open Go.RowKit Go.Lib Go.Proofs.YtnnhehlieakedaaGreatDoorW.PrintWords Go.Proofs.YtnnhehlieakedaaGreatDoorW.PrintLast Go.Proofs.YtnnhehlieakedaaGreatDoorW.PrintMore
attribute [local go_sem] max2_int min2_int max_two min_two max_three min_three max_four min_four
theorem omeE_calls (s : ByteArray) (hs : s.size ≤ 1000000) (w : World) : Calls Tryz.prog 59 #[.string s] w fun e w' => e = .returned (.string (escB s)) ∧ Below w.heap.size w w' :=
  labels_openMetricsEscape.calls (s.size + 1) s (escB s) w (ome_is s hs _ (Nat.lt_succ_self _))
theorem tyS_size (a : Int) : (tyS a).size ≤ 2 := by
  unfold tyS
  split <;> decide
set_option maxRecDepth 100000 in
set_option maxHeartbeats 8000000 in
theorem matcherText_calls (m : S25) (g : Nat) (w : World) (tb : TBr w) (ht : m.f0 = 0 ∨ m.f0 = 1) (hn : m.f1.size ≤ 100000) (hv : m.f2.size ≤ 100000)
    (h0 : w.cell? ⟨g, 0, none⟩ = some (.int .i64 m.f0)) (h1 : w.cell? ⟨g, 1, none⟩ = some (.string m.f1)) (h2 : w.cell? ⟨g, 2, none⟩ = some (.string m.f2)) :
    Calls Tryz.prog 35 #[.pointer (some ⟨g, 0, none⟩)] w fun e w' => e = .returned (.string (prM m)) ∧ Below w.heap.size w w' := by
  have TB := Aside0.mk tb
  have HT := Aside0.mk ht
  have HN := Aside0.mk hn
  have HV := Aside0.mk hv
  have qn := quoB_size m.f1
  have qv := quoB_size m.f2
  have ev := escB_size m.f2
  have ts := tyS_size m.f0
  have sz1 : (quoB m.f1).size ≤ 1000002 := by omega
  have sz2 : (quoB m.f2).size ≤ 1000002 := by omega
  have sz3 : (escB m.f2).size ≤ 200000 := by omega
  clear qn qv ev tb ht
  have z1 : (9223372036854775807 < m.f1.size + (tyS m.f0).size) = False := eq_false (by omega)
  have z2 : (9223372036854775807 < m.f1.size + (tyS m.f0).size + 1) = False := eq_false (by omega)
  have z3 : (9223372036854775807 < m.f1.size + (tyS m.f0).size + 1 + (escB m.f2).size) = False := eq_false (by omega)
  have z4 : (9223372036854775807 < m.f1.size + (tyS m.f0).size + 1 + (escB m.f2).size + 1) = False := eq_false (by omega)
  have z5 : (9223372036854775807 < (quoB m.f1).size + (tyS m.f0).size) = False := eq_false (by omega)
  have z6 : (9223372036854775807 < (quoB m.f1).size + (tyS m.f0).size + (quoB m.f2).size) = False := eq_false (by omega)
  have HP : Aside0 (prM m = if hasRes m.f1 = true then quoB m.f1 ++ tyS m.f0 ++ quoB m.f2 else m.f1 ++ tyS m.f0 ++ ⟨#[34]⟩ ++ escB m.f2 ++ ⟨#[34]⟩) := ⟨rfl⟩
  have HS0 : Aside0 (w.cell? ⟨g, 0, none⟩ = some (.int .i64 m.f0) ∧ w.cell? ⟨g, 1, none⟩ = some (.string m.f1) ∧ w.cell? ⟨g, 2, none⟩ = some (.string m.f2) ∧ Aside0 (Below w.heap.size w w)) := ⟨h0, h1, h2, ⟨Below.refl _ _⟩⟩
  clear h0 h2
  go_enter Tryz.func35, Tryz.ntmps35
  go_wp2_with fail
  refine (contains_res m.f1 _ TB.out.1.1).mono ?_
  rintro e w1 ⟨rfl, hb⟩
  have HS1 := Aside0.mk (keepM HS0.out hb)
  clear hb HS0 h1
  replace HS1 := Aside0.mk (keepM HS1.out (Below.drew (Below.refl _ w1)))
  cases hr : hasRes m.f1
  · have HR := Aside0.mk hr
    clear hr
    go_wp2_with fail
    go_region_held3 (fun W => W.cell? ⟨g, 0, none⟩ = some (.int .i64 m.f0) ∧ W.cell? ⟨g, 1, none⟩ = some (.string m.f1) ∧ W.cell? ⟨g, 2, none⟩ = some (.string m.f2) ∧ Aside0 (Below w.heap.size w W)) (first | (with_reducible exact HS1.out) | (with_reducible exact HS2.out) | (with_reducible exact HS3.out)) (first
      | (go_at_call 58; (with_reducible refine (tyS_calls m.f0 HT.out w1.drew).mono ?_); rintro e w2 ⟨rfl, hb2⟩; have HS2 := Aside0.mk (keepM HS1.out hb2); clear hb2)
      | (go_at_call 59; (with_reducible refine (omeE_calls m.f2 (by have := HV.out; omega) w2).mono ?_); rintro e w3 ⟨rfl, hb3⟩; have HS3 := Aside0.mk (keepM HS2.out hb3); clear hb3))
    all_goals
      have HE : prM m = m.f1 ++ tyS m.f0 ++ ⟨#[34]⟩ ++ escB m.f2 ++ ⟨#[34]⟩ := by rw [HP.out, HR.out]; rfl
      go_wp2
      go_ret
      exact ⟨by rw [HE]; rfl, HS3.out.2.2.2.out⟩
  · have HR := Aside0.mk hr
    clear hr
    go_wp2_with fail
    go_region_held3 (fun W => W.cell? ⟨g, 0, none⟩ = some (.int .i64 m.f0) ∧ W.cell? ⟨g, 1, none⟩ = some (.string m.f1) ∧ W.cell? ⟨g, 2, none⟩ = some (.string m.f2) ∧ Aside0 (Below w.heap.size w W)) (first | (with_reducible exact HS1.out) | (with_reducible exact HS2.out) | (with_reducible exact HS3.out) | (with_reducible exact HS4.out)) (first
      | (go_at_call 57; (with_reducible refine (quote_calls m.f1 HN.out w1.drew (TB.out.below HS1.out.2.2.2.out)).mono ?_); rintro e w2 ⟨rfl, hb2⟩; have HS2 := Aside0.mk (keepM HS1.out hb2); clear hb2)
      | (go_at_call 58; (with_reducible refine (tyS_calls m.f0 HT.out w2).mono ?_); rintro e w3 ⟨rfl, hb3⟩; have HS3 := Aside0.mk (keepM HS2.out hb3); clear hb3)
      | (go_at_call 57; (with_reducible refine (quote_calls m.f2 HV.out w3 (TB.out.below HS3.out.2.2.2.out)).mono ?_); rintro e w4 ⟨rfl, hb4⟩; have HS4 := Aside0.mk (keepM HS3.out hb4); clear hb4))
    all_goals
      have HE : prM m = quoB m.f1 ++ tyS m.f0 ++ quoB m.f2 := by rw [HP.out, HR.out]; rfl
      go_wp2
      go_ret
      exact ⟨by rw [HE]; rfl, HS4.out.2.2.2.out⟩
end Go.Proofs.YtnnhehlieakedaaGreatDoor.Q
set_option linter.unusedVariables false
set_option linter.unusedSimpArgs false
namespace Go.Proofs.YtnnhehlieakedaaGreatDoor.Q
open Go.RowKit Go.Lib Go.Proofs.YtnnhehlieakedaaGreatDoorW.PrintWords Go.Proofs.YtnnhehlieakedaaGreatDoorW.PrintLast Go.Proofs.YtnnhehlieakedaaGreatDoorW.PrintMore
attribute [local go_sem] max2_int min2_int max_two min_two max_three min_three max_four min_four
/-- A matcher that is printed here. -/
def okPr (m : S25) : Bool := (decide (m.f0 = 0) || decide (m.f0 = 1)) && decide (m.f1.size ≤ 65536) && decide (m.f2.size ≤ 65536)
theorem okPr_is {m : S25} (h : okPr m = true) : (m.f0 = 0 ∨ m.f0 = 1) ∧ m.f1.size ≤ 65536 ∧ m.f2.size ≤ 65536 := by
  unfold okPr at h
  simp only [Bool.and_eq_true, Bool.or_eq_true, decide_eq_true_eq] at h
  exact ⟨h.1.1, h.1.2, h.2⟩
theorem prM_size (m : S25) (hn : m.f1.size ≤ 100000) (hv : m.f2.size ≤ 100000) : (prM m).size ≤ 3000000 := by
  have qn := quoB_size m.f1
  have qv := quoB_size m.f2
  have ev := escB_size m.f2
  have ts := tyS_size m.f0
  unfold prM
  split
  · rw [ByteArray.size_append, ByteArray.size_append]
    omega
  · have e : (⟨#[34]⟩ : ByteArray).size = 1 := rfl
    rw [ByteArray.size_append, ByteArray.size_append, ByteArray.size_append, ByteArray.size_append, e]
    omega
/-- Texts of matchers with commas between them. -/
def bodyL : List S25 → List UInt8
  | [] => []
  | [m] => (prM m).data.toList
  | m :: t => (prM m).data.toList ++ 44 :: bodyL t
theorem bodyL_snoc (m : S25) : ∀ ms : List S25, bodyL (ms ++ [m]) = bodyL ms ++ (if ms = [] then [] else [44]) ++ (prM m).data.toList
  | [] => by simp [bodyL]
  | [a] => by simp [bodyL]
  | a :: b :: t => by
    have ih := bodyL_snoc m (b :: t)
    rw [if_neg (by simp)] at ih
    rw [if_neg (by simp), show (a :: b :: t) ++ [m] = a :: ((b :: t) ++ [m]) from rfl]
    have e : ∀ l : List S25, l ≠ [] → bodyL (a :: l) = (prM a).data.toList ++ 44 :: bodyL l := fun l hl => by
      cases l with
      | nil => exact absurd rfl hl
      | cons x t => rfl
    rw [e _ (by simp), e _ (by simp), ih]
    simp
theorem bodyL_len : ∀ ms : List S25, (∀ m ∈ ms, okPr m = true) → (bodyL ms).length ≤ 3000001 * ms.length
  | [], _ => by simp [bodyL]
  | [m], h => by
    have ⟨_, h1, h2⟩ := okPr_is (h m (by simp))
    have := prM_size m (by omega) (by omega)
    show (prM m).data.toList.length ≤ _
    rw [show (prM m).data.toList.length = (prM m).size from Array.length_toList, List.length_singleton]
    omega
  | m :: b :: t, h => by
    have ⟨_, h1, h2⟩ := okPr_is (h m (by simp))
    have := prM_size m (by omega) (by omega)
    have ih := bodyL_len (b :: t) (fun x hx => h x (List.mem_cons_of_mem _ hx))
    show ((prM m).data.toList ++ 44 :: bodyL (b :: t)).length ≤ _
    rw [List.length_append, List.length_cons, show (prM m).data.toList.length = (prM m).size from Array.length_toList, List.length_cons (a := m)]
    omega
theorem bytes_app (a b : List UInt8) : byteCells a ++ byteCells b = byteCells (a ++ b) := by simp [byteCells]
theorem byte_app (a : List UInt8) (c : UInt8) : byteCells a ++ [.int .u8 (c.toNat : Int)] = byteCells (a ++ [c]) := by simp [byteCells]
theorem bytes_len (a : List UInt8) : (byteCells a).length = a.length := by simp [byteCells]
def prL (l : List S25) : ByteArray := mk (123 :: (bodyL l ++ [125]))
set_option maxRecDepth 100000 in
set_option maxHeartbeats 8000000 in
theorem matchersText_calls (A0 : Option Addr) (c0 : Nat) (l0 : List S25) (w : World) (tb : TBr w) (hr0 : Kd.C (ptrK 82 k25) w A0 l0.length l0) (hok : ∀ m ∈ l0, okPr m = true) (hlen : l0.length ≤ 100000) :
    Calls Tryz.prog 32 #[.slice A0 l0.length c0] w fun e w' => e = .returned (.string (prL l0)) ∧ Below w.heap.size w w' := by
  have TB := Aside0.mk tb
  have HO := Aside0.mk hok
  have HR0 := Aside0.mk hr0
  clear tb hok hr0
  go_enter Tryz.func32, Tryz.ntmps32
  have HU := Aside0.mk (fresh_isBuffer 98 5 w)
  have HB := Aside0.mk (below_alloc (Below.refl w.heap.size w) (.cells #[.slice none 0 0, .int .i64 0, .int .i8 0] 98))
  go_wp2_with fail
  refine (Tryz.Buffer_WriteByte_k w.heap.size w.heap.size [] 123 _ HU.out HB.out.size (fun v hv => absurd hv (by simp)) (by simp)).mono ?_
  rintro e w1 ⟨rfl, hu, hb, _⟩
  have HU1 : Aside0 (IsBuffer 98 5 w.heap.size w.heap.size (byteCells [123]) w1) := ⟨hu⟩
  have HB1 := Aside0.mk (HB.out.trans hb)
  clear hu hb HU HB
  go_wp2_with fail
  go_loopw [9] (fun v9 wr => ∃ x : Int, 0 ≤ x ∧ x ≤ (l0.length : Int) ∧ v9 = .int .i64 x ∧ Aside0 (IsBuffer 98 5 w.heap.size w.heap.size (byteCells (123 :: bodyL (l0.take x.toNat))) wr) ∧ Aside0 (Below w.heap.size w wr)) (fun v9 _ => ((l0.length : Int) - RowKit.intOf v9).toNat)
  case atStart => exact ⟨0, by omega, by omega, rfl, HU1, HB1⟩
  case round =>
    obtain ⟨x, hx, hxl, rfl, HU, HB⟩ := hrel
    by_cases hlt : x < (l0.length : Int)
    · obtain ⟨ad, b, c, e1, hp0, hb0, hk0⟩ := at_ptr HR0.out z25 x hx hlt
      cases e1
      have hltb : b < w.heap.size := (Array.getElem?_eq_some_iff.1 hb0).1
      replace hb0 := (HB.out.block b hltb).trans hb0
      replace hp0 := (HB.out.cell (World.block_lt_of_cell? _ _ hp0)).trans hp0
      have hc := k25_open hk0
      subst hc
      have hst := Aside0.mk (take_stepQ l0 x hx hlt)
      have hrd : (l0.getD x.toNat z25) = rd_T25 l0 x := rfl
      rw [hrd] at hb0
      have hmem : rd_T25 l0 x ∈ l0 := by
        unfold rd_T25
        rw [List.getD_eq_getElem?_getD, List.getElem?_eq_getElem (by omega)]
        exact List.getElem_mem _
      have HM := Aside0.mk (HO.out _ hmem)
      have HL := Aside0.mk (bodyL_len (l0.take x.toNat) (fun m hm => HO.out m (List.mem_of_mem_take hm)))
      have hlx : (l0.take x.toNat).length = x.toNat := by rw [List.length_take]; omega
      rw [hlx] at HL
      have hne : (l0.take x.toNat = []) ↔ ¬ (x > 0) := by
        rw [← List.length_eq_zero_iff, hlx]
        omega
      have HNE := Aside0.mk hne
      have HB0 := Aside0.mk hb0
      have HLT : Aside0 (b < w.heap.size) := ⟨hltb⟩
      clear hb0 hk0 hrd hmem hlx hne hltb
      generalize rd_T25 l0 x = m at *
      generalize l0.take x.toNat = pre at *
      have hp := eq_true hx
      have hq := eq_true hlt
      by_cases hz : x > 0
      · have hif : ¬ (pre = []) := fun h => HNE.out.1 h hz
        go_wp2_with fail
        refine (Tryz.Buffer_WriteByte_k w.heap.size w.heap.size _ 44 _ HU.out HB.out.size (byteCells_one _) (by rw [bytes_len]; have := HL.out; simp; omega)).mono ?_
        rintro e w2 ⟨rfl, hu, hb, _⟩
        have HUW : Aside0 (IsBuffer 98 5 w.heap.size w.heap.size (byteCells (123 :: bodyL pre ++ [44])) w2) := ⟨by have hu2 := hu; rw [show (44 : Int) = (((44 : UInt8).toNat : Nat) : Int) from rfl, byte_app] at hu2; exact hu2⟩
        have HBW := Aside0.mk (HB.out.trans hb)
        have HBZ : Aside0 (w2.heap[b]? = some (.cells #[.int .i64 m.f0, .string m.f1, .string m.f2] 82 (0, 0))) := ⟨by have := hb.block b HLT.out; rw [this]; exact HB0.out⟩
        clear hu hb HU HB
        go_wp2_with fail
        refine (matcherText_calls m b w2 (TB.out.below HBW.out) (okPr_is HM.out).1 (by have := (okPr_is HM.out).2.1; omega) (by have := (okPr_is HM.out).2.2; omega) (cell_of_heap HBZ.out 0) (cell_of_heap HBZ.out 1) (cell_of_heap HBZ.out 2)).mono ?_
        rintro e w3 ⟨rfl, hb⟩
        have HU2 : Aside0 (IsBuffer 98 5 w.heap.size w.heap.size (byteCells (123 :: bodyL pre ++ [44])) w3) := ⟨HUW.out.old hb⟩
        have HB2 := Aside0.mk (below_step HBW.out hb)
        clear hb HUW HBW
        go_wp2_with fail
        refine (Tryz.Buffer_WriteString_k w.heap.size w.heap.size _ (prM m) _ HU2.out HB2.out.size (byteCells_one _) (by rw [bytes_len]; have := HL.out; have := prM_size m (by have := (okPr_is HM.out).2.1; omega) (by have := (okPr_is HM.out).2.2; omega); simp; omega)).mono ?_
        rintro e w4 ⟨rfl, hu, hb, _⟩
        have HU3 : Aside0 (IsBuffer 98 5 w.heap.size w.heap.size (byteCells (123 :: bodyL (pre ++ [m]))) w4) := ⟨by rw [bodyL_snoc, if_neg hif]; rw [bytes_app] at hu; simpa using hu⟩
        have HB3 := Aside0.mk (HB2.out.trans hb)
        clear hu hb HU2 HB2
        go_wp2
        go_roundw
        case rel => exact ⟨x + 1, by omega, by omega, rfl, ⟨by rw [hst.out]; exact HU3.out⟩, HB3⟩
        case measure => simp [RowKit.intOf]; omega
      · have hif : pre = [] := by
          by_cases h : pre = []
          · exact h
          · exact absurd (HNE.out.2 hz) h
        have HUW := HU
        have HBW := HB
        have HBZ := HB0
        clear HU HB
        go_wp2_with fail
        refine (matcherText_calls m b wr (TB.out.below HBW.out) (okPr_is HM.out).1 (by have := (okPr_is HM.out).2.1; omega) (by have := (okPr_is HM.out).2.2; omega) (cell_of_heap HBZ.out 0) (cell_of_heap HBZ.out 1) (cell_of_heap HBZ.out 2)).mono ?_
        rintro e w3 ⟨rfl, hb⟩
        have HU2 : Aside0 (IsBuffer 98 5 w.heap.size w.heap.size (byteCells (123 :: bodyL pre)) w3) := ⟨HUW.out.old hb⟩
        have HB2 := Aside0.mk (below_step HBW.out hb)
        clear hb HUW HBW
        go_wp2_with fail
        refine (Tryz.Buffer_WriteString_k w.heap.size w.heap.size _ (prM m) _ HU2.out HB2.out.size (byteCells_one _) (by rw [bytes_len]; have := HL.out; have := prM_size m (by have := (okPr_is HM.out).2.1; omega) (by have := (okPr_is HM.out).2.2; omega); simp; omega)).mono ?_
        rintro e w4 ⟨rfl, hu, hb, _⟩
        have HU3 : Aside0 (IsBuffer 98 5 w.heap.size w.heap.size (byteCells (123 :: bodyL (pre ++ [m]))) w4) := ⟨by rw [bodyL_snoc, if_pos hif]; rw [bytes_app] at hu; simpa using hu⟩
        have HB3 := Aside0.mk (HB2.out.trans hb)
        clear hu hb HU2 HB2
        go_wp2
        go_roundw
        case rel => exact ⟨x + 1, by omega, by omega, rfl, ⟨by rw [hst.out]; exact HU3.out⟩, HB3⟩
        case measure => simp [RowKit.intOf]; omega
    · have hxe : x = (l0.length : Int) := by omega
      subst hxe
      have hl := bodyL_len l0 HO.out
      have htk : l0.take ((l0.length : Int)).toNat = l0 := by simp
      rw [htk] at HU
      go_wp2_with fail
      refine (Tryz.Buffer_WriteByte_k w.heap.size w.heap.size _ 125 _ HU.out HB.out.size (byteCells_one _) (by rw [bytes_len]; simp; omega)).mono ?_
      rintro e w2 ⟨rfl, hu, hb, _⟩
      have HU2 : Aside0 (IsBuffer 98 5 w.heap.size w.heap.size (byteCells (123 :: (bodyL l0 ++ [125]))) w2) := ⟨by have hu2 := hu; rw [show (125 : Int) = (((125 : UInt8).toNat : Nat) : Int) from rfl, byte_app] at hu2; exact hu2⟩
      have HB2 := Aside0.mk (HB.out.trans hb)
      clear hu hb HU HB
      go_wp2_with fail
      refine (Tryz.Buffer_String w.heap.size w.heap.size _ _ HU2.out).mono ?_
      rintro e w3 ⟨rfl, n, rfl⟩
      go_wp2
      go_ret
      exact ⟨rfl, pw_below_drewN HB2.out _⟩
def impl_PrintMatcher.f (a0_0 : Int) (a0_1 : ByteArray) (a0_2 : ByteArray) : Option (ByteArray) := if okPr ⟨a0_0, a0_1, a0_2⟩ = true then some (prM ⟨a0_0, a0_1, a0_2⟩) else none
theorem impl_PrintMatcher.calls (a0_0 : Int) (a0_1 : ByteArray) (a0_2 : ByteArray) (r : ByteArray) (w : World) (tb : TBr w) (h : impl_PrintMatcher.f a0_0 a0_1 a0_2 = some r) :
    Calls Tryz.prog 17 #[.agg #[.int .i64 a0_0, .string a0_1, .string a0_2]] w fun e w' => e = .returned (.string r) ∧ Below w.heap.size w w' := by
  unfold impl_PrintMatcher.f at h
  by_cases hk : okPr ⟨a0_0, a0_1, a0_2⟩ = true
  · rw [if_pos hk] at h
    cases h
    have ⟨ho, h1, h2⟩ := okPr_is hk
    have hu := Tryz.underlying25
    have TB := Aside0.mk tb
    have HO := Aside0.mk ho
    have HB := Aside0.mk (below_alloc (Below.refl w.heap.size w) (.cells #[.int .i64 a0_0, .string a0_1, .string a0_2] 25))
    clear ho tb hk
    go_enter Tryz.func17, Tryz.ntmps17
    go_wp2_with fail
    refine (inner_calls _ _ _ _).mono ?_
    rintro e w1 ⟨g, rfl, hg, hgh, hb1⟩
    have HG := Aside0.mk hgh
    have HB1 := Aside0.mk (below_step HB.out hb1)
    clear hb1 hgh hg HB
    go_wp2_with fail
    refine (matcherText_calls ⟨a0_0, a0_1, a0_2⟩ g _ (TB.out.below HB1.out) HO.out (by show a0_1.size ≤ _; change a0_1.size ≤ _ at h1; omega) (by show a0_2.size ≤ _; change a0_2.size ≤ _ at h2; omega) (cell_of_heap HG.out 0) (cell_of_heap HG.out 1) (cell_of_heap HG.out 2)).mono ?_
    rintro e w2 ⟨rfl, hb2⟩
    have HB2 := Aside0.mk (below_step HB1.out hb2)
    clear hb2
    go_wp2
    go_ret
    exact ⟨rfl, HB2.out⟩
  · rw [if_neg hk] at h
    cases h
def impl_PrintMatchers.f (l0 : List S25) : Option (ByteArray) := if l0.all okPr = true ∧ l0.length ≤ 100000 then some (prL l0) else none
theorem impl_PrintMatchers.calls (A0 : Option Addr) (c0 : Nat) (l0 : List S25) (r : ByteArray) (w : World) (tb : TBr w) (hr0 : Kd.C k25 w A0 l0.length l0) (hc0 : l0.length ≤ c0) (h : impl_PrintMatchers.f l0 = some r) :
    Calls Tryz.prog 14 #[.slice A0 l0.length c0] w fun e w' => e = .returned (.string r) ∧ Below w.heap.size w w' := by
  unfold impl_PrintMatchers.f at h
  by_cases hk : l0.all okPr = true ∧ l0.length ≤ 100000
  · rw [if_pos hk] at h
    cases h
    have TB := Aside0.mk tb
    have HR0 := Aside0.mk hr0
    have HA := Aside0.mk (List.all_eq_true.1 hk.1)
    have hl := hk.2
    clear hr0 tb hk
    go_enter Tryz.func14, Tryz.ntmps14
    go_wp2_with fail
    refine (inners_calls A0 c0 l0 _ HR0.out hc0 (by omega)).mono ?_
    rintro e w1 ⟨v1, rfl, hR1, hb1⟩
    obtain ⟨A1, c1, rfl, hc1, hC1⟩ := Kd.R_reads hR1
    have HC1 := Aside0.mk hC1
    have HB1 := Aside0.mk hb1
    clear hR1 hC1 hb1
    go_wp2_with fail
    refine (matchersText_calls A1 c1 l0 _ (TB.out.below HB1.out) HC1.out HA.out hl).mono ?_
    rintro e w2 ⟨rfl, hb2⟩
    have HB2 := Aside0.mk (below_step HB1.out hb2)
    clear hb2
    go_wp2
    go_ret
    exact ⟨rfl, HB2.out⟩
  · rw [if_neg hk] at h
    cases h
end Go.Proofs.YtnnhehlieakedaaGreatDoor.Q
set_option linter.unusedVariables false
set_option linter.unusedSimpArgs false
namespace Go.Proofs.YtnnhehlieakedaaGreatDoor.Q
open Go.RowKit Go.Lib Go.Proofs.YtnnhehlieakedaaGreatDoorW.PrintWords Go.Proofs.YtnnhehlieakedaaGreatDoorW.PrintLast Go.Proofs.YtnnhehlieakedaaGreatDoorW.PrintMore
attribute [local go_sem] max2_int min2_int max_two min_two max_three min_three max_four min_four
def simC (c : Nat) : Bool := !(decide (c = 126) || decide (c = 65533))
def simA (s : ByteArray) (pos : Nat) : Bool := (runesI s pos).all simC
/-- A text of UTF-8 without '~' and without U+FFFD, of at most 65536 bytes. -/
def simB (s : ByteArray) : Bool := simA s 0 && decide ((s.size : Int) ≤ 65536)
set_option maxRecDepth 100000 in
set_option maxHeartbeats 1000000 in
theorem simple_calls (s : ByteArray) (w : World) : Calls Tryz.prog 50 #[.string s] w fun e w' => e = .returned (.bool (simB s)) ∧ Below w.heap.size w w' := by
  have HBW := Aside0.mk (Below.refl w.heap.size w)
  have HS : Aside0 (simB s = (simA s 0 && decide ((s.size : Int) ≤ 65536))) := ⟨rfl⟩
  go_enter Tryz.func50, Tryz.ntmps50
  go_wp2
  go_loopw [] (fun w' => ∃ pos : Nat, pos ≤ s.size ∧ Aside0 (simA s pos = simA s 0) ∧ Aside0 (w'.heap[w.heap.size]? = some (.stringIter s pos)) ∧ Aside0 (Below w.heap.size w w')) (fun w' => s.size - w'.iterPos w.heap.size)
  case atStart => exact ⟨0, Nat.zero_le _, ⟨rfl⟩, ⟨World.iter_heap w s 0⟩, ⟨below_alloc HBW.out _⟩⟩
  case round =>
    obtain ⟨pos, hpos, HL, HI, HB⟩ := hrel
    have hm : wr.iterPos w.heap.size = pos := by simp [World.iterPos, HI.out]
    by_cases hp : pos < s.size
    · have hnx : ∀ ty, (Instr.next (.pointer (some ⟨w.heap.size, 0, none⟩)) true ty).run Tryz.prog wr = _ := fun ty => Lib.run_next_any_at wr w.heap.size s pos ty HI.out hp
      have hI2 := Aside0.mk (Lib.iterAt_heap wr w.heap.size s pos (pos + (Utf8.decode s pos).2) HI.out)
      have hB2 := Aside0.mk (Lib.below_iterAt HB.out (Nat.le_refl _) s (pos + (Utf8.decode s pos).2))
      have hf := decode_fits s pos hp
      have HG := Aside0.mk (runesI_go s pos hp)
      have HM := Aside0.mk hm
      clear hm
      generalize hdec : Utf8.decode s pos = d at *
      obtain ⟨c, wd⟩ := d
      simp only at hf hI2 hB2 hnx HG
      have HR : Aside0 (∀ w2 : World, w2.heap[w.heap.size]? = some (.stringIter s (pos + wd)) → s.size - w2.iterPos w.heap.size < s.size - wr.iterPos w.heap.size) := ⟨fun w2 h2 => by
        have h3 : w2.iterPos w.heap.size = pos + wd := by simp [World.iterPos, h2]
        rw [h3, HM.out]
        omega⟩
      clear hdec
      have HE : Aside0 (simA s pos = (simC c && simA s (pos + wd))) := ⟨by unfold simA; rw [HG.out, List.all_cons]⟩
      have hcs : c = 126 ∨ (c ≠ 126 ∧ c = 65533) ∨ (c ≠ 126 ∧ c ≠ 65533) := by omega
      rcases hcs with h1 | ⟨h1, h2⟩ | ⟨h1, h2⟩
      · have HA : Aside0 (simA s 0 = false) := ⟨by rw [← HL.out, HE.out]; subst h1; rfl⟩
        have b1 : ((c : Int) == 126) = true := by subst h1; rfl
        clear h1
        go_wp2
        go_ret
        exact ⟨by rw [HS.out, HA.out]; rfl, hB2.out⟩
      · have HA : Aside0 (simA s 0 = false) := ⟨by rw [← HL.out, HE.out]; subst h2; rfl⟩
        have b1 : ((c : Int) == 126) = false := by subst h2; rfl
        have b2 : ((c : Int) == 65533) = true := by subst h2; rfl
        clear h1 h2
        go_wp2
        go_ret
        exact ⟨by rw [HS.out, HA.out]; rfl, hB2.out⟩
      · have hC : simC c = true := by simp [simC, h1, h2]
        have HA : Aside0 (simA s (pos + wd) = simA s 0) := ⟨by rw [← HL.out, HE.out, hC]; rfl⟩
        have b1 : ((c : Int) == 126) = false := beq_eq_false_iff_ne.2 (by omega)
        have b2 : ((c : Int) == 65533) = false := beq_eq_false_iff_ne.2 (by omega)
        clear h1 h2 hC
        go_wp2
        go_roundw
        case rel => exact ⟨pos + wd, hf.2, HA, hI2, hB2⟩
        case measure => exact HR.out _ hI2.out
    · have hnx : ∀ ty, (Instr.next (.pointer (some ⟨w.heap.size, 0, none⟩)) true ty).run Tryz.prog wr = _ := fun ty => Lib.run_next_end_at wr w.heap.size s pos ty HI.out hp
      have HA : Aside0 (simA s 0 = true) := ⟨by rw [← HL.out]; unfold simA; rw [runesI_end s pos hp]; rfl⟩
      clear hm hp
      go_wp2
      go_ret
      exact ⟨by rw [HS.out, HA.out]; rfl, HB.out⟩
/-- A plain matcher. -/
def plaB (m : S25) : Bool := (((m.f0 == 0) || (m.f0 == 1)) && !(m.f1.toList == [])) && simB m.f1 && simB m.f2
set_option maxRecDepth 100000 in
set_option maxHeartbeats 8000000 in
theorem plain_calls (t : Int) (n v : ByteArray) (w : World) : Calls Tryz.prog 30 #[.agg #[.int .i64 t, .string n, .string v]] w fun e w' => e = .returned (.bool (plaB ⟨t, n, v⟩)) ∧ Below w.heap.size w w' := by
  have hu := Tryz.underlying25
  have HP : Aside0 (plaB ⟨t, n, v⟩ = ((((t == 0) || (t == 1)) && !(n.toList == [])) && simB n && simB v)) := ⟨rfl⟩
  have hc0 : (w.alloc (.cells #[.int .i64 t, .string n, .string v] 25)).cell? ⟨w.heap.size, 0, none⟩ = some (.int .i64 t) := Lib.cell_of_heap (heap_alloc_new w (.cells #[.int .i64 t, .string n, .string v] 25)) 0
  have hc1 : (w.alloc (.cells #[.int .i64 t, .string n, .string v] 25)).cell? ⟨w.heap.size, 1, none⟩ = some (.string n) := Lib.cell_of_heap (heap_alloc_new w (.cells #[.int .i64 t, .string n, .string v] 25)) 1
  have hc2 : (w.alloc (.cells #[.int .i64 t, .string n, .string v] 25)).cell? ⟨w.heap.size, 2, none⟩ = some (.string v) := Lib.cell_of_heap (heap_alloc_new w (.cells #[.int .i64 t, .string n, .string v] 25)) 2
  have HS0 : Aside0 ((w.alloc (.cells #[.int .i64 t, .string n, .string v] 25)).cell? ⟨w.heap.size, 0, none⟩ = some (.int .i64 t) ∧ (w.alloc (.cells #[.int .i64 t, .string n, .string v] 25)).cell? ⟨w.heap.size, 1, none⟩ = some (.string n) ∧ (w.alloc (.cells #[.int .i64 t, .string n, .string v] 25)).cell? ⟨w.heap.size, 2, none⟩ = some (.string v) ∧ Aside0 (Below w.heap.size w (w.alloc (.cells #[.int .i64 t, .string n, .string v] 25)))) := ⟨hc0, hc1, hc2, ⟨below_alloc (Below.refl _ _) _⟩⟩
  clear hc0 hc1 hc2
  by_cases hne : n.toList.isEmpty = true
  · have HE : Aside0 (plaB ⟨t, n, v⟩ = false) := ⟨by
      have e : n.toList = [] := List.isEmpty_iff.1 hne
      rw [HP.out, e]
      simp⟩
    have ht : t = 0 ∨ t = 1 ∨ (¬ t = 0 ∧ ¬ t = 1) := by omega
    rcases ht with rfl | rfl | ⟨h0, h1⟩
    · go_enter Tryz.func30, Tryz.ntmps30
      go_wp2
      go_ret
      exact ⟨by rw [HE.out]; rfl, HS0.out.2.2.2.out⟩
    · go_enter Tryz.func30, Tryz.ntmps30
      go_wp2
      go_ret
      exact ⟨by rw [HE.out]; rfl, HS0.out.2.2.2.out⟩
    · go_enter Tryz.func30, Tryz.ntmps30
      go_wp2
      go_ret
      exact ⟨by rw [HE.out]; rfl, HS0.out.2.2.2.out⟩
  · have hne' : n.toList.isEmpty = false := by simpa using hne
    have hnn : (n.toList == []) = false := by
      cases hn : n.toList with
      | nil => rw [hn] at hne; exact absurd rfl hne
      | cons a b => rfl
    clear hne
    have ht : (t = 0 ∨ t = 1) ∨ (¬ t = 0 ∧ ¬ t = 1) := by omega
    rcases ht with ht | ⟨h0, h1⟩
    · have HE : Aside0 (plaB ⟨t, n, v⟩ = (simB n && simB v)) := ⟨by rw [HP.out, hnn]; rcases ht with rfl | rfl <;> simp⟩
      rcases ht with rfl | rfl
      all_goals
        go_enter Tryz.func30, Tryz.ntmps30
        go_wp2_with fail
        refine (simple_calls n _).mono ?_
        rintro e w1 ⟨rfl, hb⟩
        have HS1 := Aside0.mk (keepM HS0.out hb)
        have hc2 := HS1.out.2.2.1
        clear hb HS0
        cases hs : simB n
        · have HF := Aside0.mk hs
          go_wp2
          go_ret
          exact ⟨by rw [HE.out, HF.out]; rfl, HS1.out.2.2.2.out⟩
        · have HF := Aside0.mk hs
          go_wp2_with fail
          refine (simple_calls v _).mono ?_
          rintro e w2 ⟨rfl, hb⟩
          have HS2 := Aside0.mk (keepM HS1.out hb)
          clear hb HS1
          go_wp2
          go_ret
          exact ⟨by rw [HE.out, HF.out]; rfl, HS2.out.2.2.2.out⟩
    · have HE : Aside0 (plaB ⟨t, n, v⟩ = false) := ⟨by rw [HP.out]; simp [h0, h1]⟩
      go_enter Tryz.func30, Tryz.ntmps30
      go_wp2
      go_ret
      exact ⟨by rw [HE.out]; rfl, HS0.out.2.2.2.out⟩
set_option maxRecDepth 100000 in
set_option maxHeartbeats 4000000 in
theorem allPlain_calls (A0 : Option Addr) (c0 : Nat) (l0 : List S25) (w : World) (hr0 : Kd.C k25 w A0 l0.length l0) (hc0 : l0.length ≤ c0) (hlen : l0.length ≤ 4294967296) :
    Calls Tryz.prog 13 #[.slice A0 l0.length c0] w fun e w' => e = .returned (.bool (l0.all plaB && decide ((l0.length : Int) ≤ 1000))) ∧ Below w.heap.size w w' := by
  have hu := Tryz.underlying25
  have HR0 := Aside0.mk hr0
  clear hr0
  have HB := Aside0.mk (Below.refl w.heap.size w)
  go_enter Tryz.func13, Tryz.ntmps13
  go_wp2
  go_loopw [7] (fun v7 wr => ∃ x : Int, 0 ≤ x ∧ x ≤ (l0.length : Int) ∧ v7 = .int .i64 x ∧ Aside0 ((l0.drop x.toNat).all plaB = l0.all plaB) ∧ Aside0 (Below w.heap.size w wr)) (fun v7 _ => ((l0.length : Int) - RowKit.intOf v7).toNat)
  case atStart => exact ⟨0, by omega, by omega, rfl, ⟨rfl⟩, HB⟩
  case round =>
    obtain ⟨x, hx, hxl, rfl, HL, HB⟩ := hrel
    by_cases hlt : x < (l0.length : Int)
    · obtain ⟨ad, e1, hx0, hx1, hx2⟩ := at_T25 HR0.out x hx hlt
      cases e1
      replace hx0 := (HB.out.cell (World.block_lt_of_cell? w _ hx0)).trans hx0
      replace hx1 := (HB.out.cell (World.block_lt_of_cell? w _ hx1)).trans hx1
      replace hx2 := (HB.out.cell (World.block_lt_of_cell? w _ hx2)).trans hx2
      have hst : (l0.drop x.toNat).all plaB = (plaB (rd_T25 l0 x) && (l0.drop (x + 1).toNat).all plaB) := by
        have e : (x + 1).toNat = x.toNat + 1 := by omega
        have hl : x.toNat < l0.length := by omega
        rw [e, List.drop_eq_getElem_cons hl, List.all_cons]
        unfold rd_T25
        rw [List.getD_eq_getElem?_getD, List.getElem?_eq_getElem hl]
        rfl
      have HST := Aside0.mk hst
      clear hst
      generalize rd_T25 l0 x = m at *
      have hp := eq_true hx
      have hq := eq_true hlt
      have hw : wrap64 (x + 1) = x + 1 := by unfold wrap64; omega
      go_wp2_with fail
      refine (plain_calls m.f0 m.f1 m.f2 _).mono ?_
      rintro e w1 ⟨rfl, hb1⟩
      have HB1 := Aside0.mk (below_step (below_alloc HB.out _) hb1)
      clear HB hb1
      cases hs : plaB ⟨m.f0, m.f1, m.f2⟩
      · have HF : Aside0 (l0.all plaB = false) := ⟨by rw [← HL.out, HST.out, show plaB m = false from hs]; rfl⟩
        go_wp2
        go_ret
        exact ⟨by rw [HF.out]; rfl, HB1.out⟩
      · have HF : Aside0 ((l0.drop (x + 1).toNat).all plaB = l0.all plaB) := ⟨by rw [← HL.out, HST.out, show plaB m = true from hs]; rfl⟩
        go_wp2
        go_roundw
        case rel => exact ⟨x + 1, by omega, by omega, rfl, HF, HB1⟩
        case measure => simp [RowKit.intOf, hw]; omega
    · have hxe : x = (l0.length : Int) := by omega
      subst hxe
      have HF : Aside0 (l0.all plaB = true) := ⟨by rw [← HL.out]; simp⟩
      go_wp2
      go_ret
      exact ⟨by rw [HF.out]; rfl, HB.out⟩
def laws_allPlain.f (l0 : List S25) : Option (Bool) := if l0.length ≤ 4294967296 then some (l0.all plaB && decide ((l0.length : Int) ≤ 1000)) else none
theorem laws_allPlain.calls (A0 : Option Addr) (c0 : Nat) (l0 : List S25) (r : Bool) (w : World) (hr0 : Kd.C k25 w A0 l0.length l0) (hc0 : l0.length ≤ c0) (h : laws_allPlain.f l0 = some r) :
    Calls Tryz.prog 13 #[.slice A0 l0.length c0] w fun e w' => e = .returned (.bool r) ∧ Below w.heap.size w w' := by
  unfold laws_allPlain.f at h
  by_cases hk : l0.length ≤ 4294967296
  · rw [if_pos hk] at h
    cases h
    exact allPlain_calls A0 c0 l0 w hr0 hc0 hk
  · rw [if_neg hk] at h
    cases h
end Go.Proofs.YtnnhehlieakedaaGreatDoor.Q
