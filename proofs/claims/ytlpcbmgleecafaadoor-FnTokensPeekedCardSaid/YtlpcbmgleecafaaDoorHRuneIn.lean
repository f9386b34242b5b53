/- What parse.zzContainsRune returns: whether a character is one of a text's. No condition. -/
import Derived.WalkLawsBesides
import Derived.Lib.OthersKept
import Derived.Test.YtlpcbmgleecafaaDoorHDec
set_option linter.unusedVariables false
set_option linter.unusedSimpArgs false
namespace Go.Proofs.YtlpcbmgleecafaaDoor.Q
open Go.RowKit Go.Lib Go.Proofs.YtlpcbmgleecafaaDoorW.PrintWords Go.Proofs.YtlpcbmgleecafaaDoorW.PrintLast Go.Proofs.YtlpcbmgleecafaaDoorW.PrintMore
attribute [local go_sem] max2_int min2_int max_two min_two max_three min_three max_four min_four
/-- The characters of a text from a place on. -/
def runesI (s : ByteArray) (pos : Nat) : List Nat := if h : pos < s.size then (Utf8.decode s pos).1 :: runesI s (pos + (Utf8.decode s pos).2) else []
termination_by s.size - pos
decreasing_by have := decode_wide s pos; omega
theorem runesI_go (s : ByteArray) (pos : Nat) (h : pos < s.size) : runesI s pos = (Utf8.decode s pos).1 :: runesI s (pos + (Utf8.decode s pos).2) := by rw [runesI, dif_pos h]
theorem runesI_end (s : ByteArray) (pos : Nat) (h : ¬ pos < s.size) : runesI s pos = [] := by rw [runesI, dif_neg h]
/-- Is a number one of a character. -/
def okR (r : Int) : Bool := decide (r = 65533) || !(decide (r < 0) || decide (1114111 < r) || (decide (55296 ≤ r) && decide (r ≤ 57343)))
/-- Does a text have a character. -/
def hasR (s : ByteArray) (r : Int) : Bool := okR r && (runesI s 0).any fun c => decide ((c : Int) = r)
def IdxIs (s : ByteArray) (r : Int) (w : World) (e : Ending) (w' : World) : Prop := ∃ n : Int, e = .returned (.int .i64 n) ∧ decide (0 ≤ n) = hasR s r ∧ Below w.heap.size w w'
theorem okR_false {r : Int} (h : okR r = false) : r ≠ 65533 ∧ (r < 0 ∨ 1114111 < r ∨ (55296 ≤ r ∧ r ≤ 57343)) := by
  unfold okR at h
  simp at h
  omega
set_option maxRecDepth 100000 in
set_option maxHeartbeats 1000000 in
theorem idx_calls (s : ByteArray) (r : Int) (w : World) : Calls Tryd.prog 43 #[.string s, .int .i32 r] w (IdxIs s r w) := by
  have HBW := Aside0.mk (Below.refl w.heap.size w)
  cases hk : okR r
  · have HO : Aside0 (hasR s r = false) := ⟨by unfold hasR; rw [hk]; rfl⟩
    obtain ⟨h1, h2⟩ := okR_false hk
    have b1 : (r == 65533) = false := beq_eq_false_iff_ne.2 h1
    have b2 : (r != 65533) = true := bne_iff_ne.2 h1
    by_cases h0 : r < 0
    · have d0 : decide (r < 0) = true := decide_eq_true h0
      clear hk h1 h2
      go_enter Tryd.func43, Tryd.ntmps43
      go_wp2
      go_ret
      exact ⟨-1, rfl, by rw [HO.out]; rfl, HBW.out⟩
    · have d0 : decide (r < 0) = false := decide_eq_false h0
      by_cases h3 : 1114111 < r
      · have d3 : decide (1114111 < r) = true := decide_eq_true h3
        clear hk h1 h2
        go_enter Tryd.func43, Tryd.ntmps43
        go_wp2
        go_ret
        exact ⟨-1, rfl, by rw [HO.out]; rfl, HBW.out⟩
      · have d3 : decide (1114111 < r) = false := decide_eq_false h3
        have d4 : decide (55296 ≤ r) = true := decide_eq_true (by omega)
        have d5 : decide (r ≤ 57343) = true := decide_eq_true (by omega)
        clear hk h1 h2
        go_enter Tryd.func43, Tryd.ntmps43
        go_wp2
        go_ret
        exact ⟨-1, rfl, by rw [HO.out]; rfl, HBW.out⟩
  · have HO : Aside0 (hasR s r = (runesI s 0).any fun c => decide ((c : Int) = r)) := ⟨by unfold hasR; rw [hk]; rfl⟩
    have hg : (r != 65533 && (decide (r < 0) || decide (1114111 < r) || (decide (55296 ≤ r) && decide (r ≤ 57343)))) = false := by
      unfold okR at hk
      simp at hk ⊢
      omega
    clear hk
    have hpick : r = 65533 ∨ (¬ r = 65533 ∧ ¬ r < 0 ∧ ¬ 1114111 < r ∧ (¬ 55296 ≤ r ∨ ¬ r ≤ 57343)) := by
      simp at hg
      omega
    clear hg
    rcases hpick with h1 | ⟨h1, h2, h3, h4⟩
    · have b2 : (r != 65533) = false := bne_eq_false_iff_eq.2 h1
      clear h1
      go_enter Tryd.func43, Tryd.ntmps43
      go_wp2
      go_loopw [] (fun w' => ∃ pos : Nat, pos ≤ s.size ∧ Aside0 ((runesI s pos).any (fun c => decide ((c : Int) = r)) = (runesI s 0).any fun c => decide ((c : Int) = r)) ∧ Aside0 (w'.heap[w.heap.size]? = some (.stringIter s pos)) ∧ Aside0 (Below w.heap.size w w')) (fun w' => s.size - w'.iterPos w.heap.size)
      case atStart => exact ⟨0, Nat.zero_le _, ⟨rfl⟩, ⟨World.iter_heap w s 0⟩, ⟨below_alloc HBW.out _⟩⟩
      case round =>
        obtain ⟨pos, hpos, HL, HI, HB⟩ := hrel
        have hm : wr.iterPos w.heap.size = pos := by simp [World.iterPos, HI.out]
        by_cases hp : pos < s.size
        · have hnx : ∀ ty, (Instr.next (.pointer (some ⟨w.heap.size, 0, none⟩)) true ty).run Tryd.prog wr = _ := fun ty => Lib.run_next_any_at wr w.heap.size s pos ty HI.out hp
          have hI2 := Aside0.mk (Lib.iterAt_heap wr w.heap.size s pos (pos + (Utf8.decode s pos).2) HI.out)
          have hB2 := Aside0.mk (Lib.below_iterAt HB.out (Nat.le_refl _) s (pos + (Utf8.decode s pos).2))
          have hf := decode_fits s pos hp
          have HG := Aside0.mk (runesI_go s pos hp)
          have HM := Aside0.mk hm
          clear hm
          generalize hdec : Utf8.decode s pos = d at *
          obtain ⟨c, wd⟩ := d
          simp only at hf hI2 hB2 hnx HG
          have HR : Aside0 (∀ w2 : World, w2.heap[w.heap.size]? = some (.stringIter s (pos + wd)) → s.size - w2.iterPos w.heap.size < s.size - wr.iterPos w.heap.size) := ⟨fun w2 h2 => by
            have h3 : w2.iterPos w.heap.size = pos + wd := by simp [World.iterPos, h2]
            rw [h3, HM.out]
            omega⟩
          clear hdec
          by_cases hc : (c : Int) = r
          · have bc : ((c : Int) == r) = true := beq_iff_eq.2 hc
            have HA : Aside0 (((runesI s 0).any fun c => decide ((c : Int) = r)) = true) := ⟨by rw [← HL.out, HG.out]; simp [hc]⟩
            clear hc
            go_wp2
            go_ret
            exact ⟨(pos : Int), rfl, by rw [HO.out, HA.out]; simp, hB2.out⟩
          · have bc : ((c : Int) == r) = false := beq_eq_false_iff_ne.2 hc
            have HA : Aside0 ((runesI s (pos + wd)).any (fun c => decide ((c : Int) = r)) = (runesI s 0).any fun c => decide ((c : Int) = r)) := ⟨by rw [← HL.out, HG.out]; simp [hc]⟩
            clear hc
            go_wp2
            go_roundw
            case rel => exact ⟨pos + wd, hf.2, HA, hI2, hB2⟩
            case measure => exact HR.out _ hI2.out
        · have hnx : ∀ ty, (Instr.next (.pointer (some ⟨w.heap.size, 0, none⟩)) true ty).run Tryd.prog wr = _ := fun ty => Lib.run_next_end_at wr w.heap.size s pos ty HI.out hp
          have HA : Aside0 (((runesI s 0).any fun c => decide ((c : Int) = r)) = false) := ⟨by rw [← HL.out, runesI_end s pos hp]; rfl⟩
          clear hm hp
          go_wp2
          go_ret
          exact ⟨-1, rfl, by rw [HO.out, HA.out]; rfl, HB.out⟩
    · have b2 : (r != 65533) = true := bne_iff_ne.2 h1
      have d0 : decide (r < 0) = false := decide_eq_false h2
      have d3 : decide (1114111 < r) = false := decide_eq_false h3
      by_cases h5 : 55296 ≤ r
      · have d4 : decide (55296 ≤ r) = true := decide_eq_true h5
        have d5 : decide (r ≤ 57343) = false := decide_eq_false (by omega)
        clear h1 h2 h3 h4 h5
        go_enter Tryd.func43, Tryd.ntmps43
        go_wp2
        go_loopw [] (fun w' => ∃ pos : Nat, pos ≤ s.size ∧ Aside0 ((runesI s pos).any (fun c => decide ((c : Int) = r)) = (runesI s 0).any fun c => decide ((c : Int) = r)) ∧ Aside0 (w'.heap[w.heap.size]? = some (.stringIter s pos)) ∧ Aside0 (Below w.heap.size w w')) (fun w' => s.size - w'.iterPos w.heap.size)
        case atStart => exact ⟨0, Nat.zero_le _, ⟨rfl⟩, ⟨World.iter_heap w s 0⟩, ⟨below_alloc HBW.out _⟩⟩
        case round =>
          obtain ⟨pos, hpos, HL, HI, HB⟩ := hrel
          have hm : wr.iterPos w.heap.size = pos := by simp [World.iterPos, HI.out]
          by_cases hp : pos < s.size
          · have hnx : ∀ ty, (Instr.next (.pointer (some ⟨w.heap.size, 0, none⟩)) true ty).run Tryd.prog wr = _ := fun ty => Lib.run_next_any_at wr w.heap.size s pos ty HI.out hp
            have hI2 := Aside0.mk (Lib.iterAt_heap wr w.heap.size s pos (pos + (Utf8.decode s pos).2) HI.out)
            have hB2 := Aside0.mk (Lib.below_iterAt HB.out (Nat.le_refl _) s (pos + (Utf8.decode s pos).2))
            have hf := decode_fits s pos hp
            have HG := Aside0.mk (runesI_go s pos hp)
            have HM := Aside0.mk hm
            clear hm
            generalize hdec : Utf8.decode s pos = d at *
            obtain ⟨c, wd⟩ := d
            simp only at hf hI2 hB2 hnx HG
            have HR : Aside0 (∀ w2 : World, w2.heap[w.heap.size]? = some (.stringIter s (pos + wd)) → s.size - w2.iterPos w.heap.size < s.size - wr.iterPos w.heap.size) := ⟨fun w2 h2 => by
              have h3 : w2.iterPos w.heap.size = pos + wd := by simp [World.iterPos, h2]
              rw [h3, HM.out]
              omega⟩
            clear hdec
            by_cases hc : (c : Int) = r
            · have bc : ((c : Int) == r) = true := beq_iff_eq.2 hc
              have HA : Aside0 (((runesI s 0).any fun c => decide ((c : Int) = r)) = true) := ⟨by rw [← HL.out, HG.out]; simp [hc]⟩
              clear hc
              go_wp2
              go_ret
              exact ⟨(pos : Int), rfl, by rw [HO.out, HA.out]; simp, hB2.out⟩
            · have bc : ((c : Int) == r) = false := beq_eq_false_iff_ne.2 hc
              have HA : Aside0 ((runesI s (pos + wd)).any (fun c => decide ((c : Int) = r)) = (runesI s 0).any fun c => decide ((c : Int) = r)) := ⟨by rw [← HL.out, HG.out]; simp [hc]⟩
              clear hc
              go_wp2
              go_roundw
              case rel => exact ⟨pos + wd, hf.2, HA, hI2, hB2⟩
              case measure => exact HR.out _ hI2.out
          · have hnx : ∀ ty, (Instr.next (.pointer (some ⟨w.heap.size, 0, none⟩)) true ty).run Tryd.prog wr = _ := fun ty => Lib.run_next_end_at wr w.heap.size s pos ty HI.out hp
            have HA : Aside0 (((runesI s 0).any fun c => decide ((c : Int) = r)) = false) := ⟨by rw [← HL.out, runesI_end s pos hp]; rfl⟩
            clear hm hp
            go_wp2
            go_ret
            exact ⟨-1, rfl, by rw [HO.out, HA.out]; rfl, HB.out⟩
      · have d4 : decide (55296 ≤ r) = false := decide_eq_false h5
        clear h1 h2 h3 h4 h5
        go_enter Tryd.func43, Tryd.ntmps43
        go_wp2
        go_loopw [] (fun w' => ∃ pos : Nat, pos ≤ s.size ∧ Aside0 ((runesI s pos).any (fun c => decide ((c : Int) = r)) = (runesI s 0).any fun c => decide ((c : Int) = r)) ∧ Aside0 (w'.heap[w.heap.size]? = some (.stringIter s pos)) ∧ Aside0 (Below w.heap.size w w')) (fun w' => s.size - w'.iterPos w.heap.size)
        case atStart => exact ⟨0, Nat.zero_le _, ⟨rfl⟩, ⟨World.iter_heap w s 0⟩, ⟨below_alloc HBW.out _⟩⟩
        case round =>
          obtain ⟨pos, hpos, HL, HI, HB⟩ := hrel
          have hm : wr.iterPos w.heap.size = pos := by simp [World.iterPos, HI.out]
          by_cases hp : pos < s.size
          · have hnx : ∀ ty, (Instr.next (.pointer (some ⟨w.heap.size, 0, none⟩)) true ty).run Tryd.prog wr = _ := fun ty => Lib.run_next_any_at wr w.heap.size s pos ty HI.out hp
            have hI2 := Aside0.mk (Lib.iterAt_heap wr w.heap.size s pos (pos + (Utf8.decode s pos).2) HI.out)
            have hB2 := Aside0.mk (Lib.below_iterAt HB.out (Nat.le_refl _) s (pos + (Utf8.decode s pos).2))
            have hf := decode_fits s pos hp
            have HG := Aside0.mk (runesI_go s pos hp)
            have HM := Aside0.mk hm
            clear hm
            generalize hdec : Utf8.decode s pos = d at *
            obtain ⟨c, wd⟩ := d
            simp only at hf hI2 hB2 hnx HG
            have HR : Aside0 (∀ w2 : World, w2.heap[w.heap.size]? = some (.stringIter s (pos + wd)) → s.size - w2.iterPos w.heap.size < s.size - wr.iterPos w.heap.size) := ⟨fun w2 h2 => by
              have h3 : w2.iterPos w.heap.size = pos + wd := by simp [World.iterPos, h2]
              rw [h3, HM.out]
              omega⟩
            clear hdec
            by_cases hc : (c : Int) = r
            · have bc : ((c : Int) == r) = true := beq_iff_eq.2 hc
              have HA : Aside0 (((runesI s 0).any fun c => decide ((c : Int) = r)) = true) := ⟨by rw [← HL.out, HG.out]; simp [hc]⟩
              clear hc
              go_wp2
              go_ret
              exact ⟨(pos : Int), rfl, by rw [HO.out, HA.out]; simp, hB2.out⟩
            · have bc : ((c : Int) == r) = false := beq_eq_false_iff_ne.2 hc
              have HA : Aside0 ((runesI s (pos + wd)).any (fun c => decide ((c : Int) = r)) = (runesI s 0).any fun c => decide ((c : Int) = r)) := ⟨by rw [← HL.out, HG.out]; simp [hc]⟩
              clear hc
              go_wp2
              go_roundw
              case rel => exact ⟨pos + wd, hf.2, HA, hI2, hB2⟩
              case measure => exact HR.out _ hI2.out
          · have hnx : ∀ ty, (Instr.next (.pointer (some ⟨w.heap.size, 0, none⟩)) true ty).run Tryd.prog wr = _ := fun ty => Lib.run_next_end_at wr w.heap.size s pos ty HI.out hp
            have HA : Aside0 (((runesI s 0).any fun c => decide ((c : Int) = r)) = false) := ⟨by rw [← HL.out, runesI_end s pos hp]; rfl⟩
            clear hm hp
            go_wp2
            go_ret
            exact ⟨-1, rfl, by rw [HO.out, HA.out]; rfl, HB.out⟩
end Go.Proofs.YtlpcbmgleecafaaDoor.Q
