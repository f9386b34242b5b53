/- The law FnUnderscored, walked: it returns true at every text. Condition: the library's tables as it lays them. -/
import Derived.Test.YtkbaihcamimnjaaDoorHEsc
import Derived.Test.YtkbaihcamimnjaaDoorHTabUZ
import Derived.Test.YtkbaihcamimnjaaDoorHValid
import Derived.Test.YtkbaihcamimnjaaDoorULegL
set_option linter.unusedVariables false
set_option linter.unusedSimpArgs false
namespace Go.Proofs.YtkbaihcamimnjaaDoor.Q
open Go.RowKit Go.Lib Go.Proofs.YtkbaihcamimnjaaDoorW.PrintWords Go.Proofs.YtkbaihcamimnjaaDoorW.PrintLast Go.Proofs.YtkbaihcamimnjaaDoorW.PrintMore
attribute [local go_sem] max2_int min2_int max_two min_two max_three min_three max_four min_four
theorem esc_calls' (s : ByteArray) (k : Int) (w : World) (tb : TBz w) (hs : s.size ≤ 1000000) (hk : k = 0 ∨ k = 1 ∨ k = 2 ∨ k = 3) :
    Calls Tryd.prog 14 #[.string s, .int .i64 k] w fun e w' => e = .returned (.string (escF s k)) ∧ Below w.heap.size w w' :=
  impl_Escape.calls s k _ w tb (by unfold impl_Escape.f; rw [if_pos ⟨hs, hk⟩])
theorem escF_ab : escF ⟨#[97, 46, 98]⟩ 1 = ⟨#[97, 95, 98]⟩ := by
  unfold escF
  rw [if_neg (by decide), if_neg (by decide), if_pos rfl]
  have hl : legB true ⟨#[97, 46, 98]⟩ = false := by decide
  rw [hl, if_neg (by decide)]
  have hd : ∀ i, i < 3 → Utf8.decode ⟨#[97, 46, 98]⟩ i = (((⟨#[97, 46, 98]⟩ : ByteArray).get! i).toNat, 1) := fun i hi => by
    have : i = 0 ∨ i = 1 ∨ i = 2 := by omega
    rcases this with rfl | rfl | rfl <;> rfl
  have e2 : escFrom 1 ⟨#[97, 46, 98]⟩ 2 = [98] := by
    rw [escFrom_step 1 _ 2 (by decide), hd 2 (by decide)]
    show _ ++ escFrom 1 _ 3 = _
    rw [escFrom_end 1 _ 3 (by decide)]
    rfl
  have e1 : escFrom 1 ⟨#[97, 46, 98]⟩ 1 = [95, 98] := by
    rw [escFrom_step 1 _ 1 (by decide), hd 1 (by decide)]
    show _ ++ escFrom 1 _ 2 = _
    rw [e2]
    rfl
  rw [escFrom_step 1 _ 0 (by decide), hd 0 (by decide)]
  show (⟨(_ ++ escFrom 1 _ 1).toArray⟩ : ByteArray) = _
  rw [e1]
  rfl
theorem ba_ext {a b : ByteArray} (h : a.data.toList = b.data.toList) : a = b := by
  obtain ⟨⟨l⟩⟩ := a
  obtain ⟨⟨m⟩⟩ := b
  simp only at h
  rw [h]
theorem esc_copy (s : ByteArray) (h : ∀ i, i < s.size → legC true (bt s i) i = true) (d : Nat) : ∀ pos, s.size - pos ≤ d → escFrom 1 s pos = s.data.toList.drop pos := by
  have ends : ∀ pos, ¬ pos < s.size → escFrom 1 s pos = s.data.toList.drop pos := fun pos hp => by
    rw [escFrom_end 1 s pos hp, List.drop_eq_nil_of_le (by rw [Array.length_toList]; show s.size ≤ pos; omega)]
  induction d with
  | zero => exact fun pos hd => ends pos (by omega)
  | succ d ih =>
    intro pos hd
    by_cases hp : pos < s.size
    · have hl := h pos hp
      have hb := bt_nat s pos hp
      have hs : (s[pos]'hp).toNat < 128 := by rw [hb] at hl; simp [legC] at hl; omega
      have hlen : pos < s.data.toList.length := by rw [Array.length_toList]; exact hp
      rw [escFrom_step 1 s pos hp, decode_ascii s pos hp hs, List.drop_eq_getElem_cons hlen]
      rw [hb] at hl
      simp only [escOne, if_true, hl]
      rw [ih (pos + 1) (by omega)]
      simp
      rfl
    · exact ends pos hp
theorem escF1_is (s : ByteArray) : (escF s 1).data.toList = escFrom 1 s 0 := by
  unfold escF
  split
  · rename_i h0
    rw [escFrom_end 1 s 0 (by omega)]
    exact List.eq_nil_of_length_eq_zero (by rw [Array.length_toList]; exact h0)
  · rw [if_neg (by decide), if_pos (by decide)]
    split
    · rename_i h0 hl
      rw [esc_copy s (fun i hi => ?_) s.size 0 (by omega)]
      · rfl
      · simp [legB] at hl
        exact hl.2 i hi
    · rfl
theorem one_str (W : World) (u : UInt8) : (convert 31 9 (.slice (some ⟨W.heap.size, 0, none⟩) 1 1)).run Tryd.prog (W.alloc (.cells #[.int .u8 (u.toNat : Int)] 5)) = .ok (.string ⟨#[u]⟩) (W.alloc (.cells #[.int .u8 (u.toNat : Int)] 5)) := by
  have := run_convert_bytes_back (P := Tryd.prog) (W.alloc (.cells #[.int .u8 (u.toNat : Int)] 5)) 31 9 5 ⟨W.heap.size, 0, none⟩ 1 [u] Tryd.underlying31 Tryd.underlying5 Tryd.underlying9 (fun j hj => by
    have : j = 0 := by simpa using hj
    subst this
    show (W.alloc _).cell? ⟨W.heap.size, 0, none⟩ = _
    simp)
  exact this
theorem leg_one (u : UInt8) : laws_legacy.f 3 ⟨#[u]⟩ true = some (legC true (u.toNat : Int) 0) := by
  rw [legacy_is true ⟨#[u]⟩ (by show 1 ≤ _; decide) 3 (by show 1 < 3; decide)]
  have h : legB true ⟨#[u]⟩ = legC true (bt ⟨#[u]⟩ 0) 0 := by simp [legB, ByteArray.size]
  rw [h]
  rfl
theorem legC_pos {c : Int} (pos : Nat) (h : legC true c 0 = true) : legC true c (pos : Int) = true := by
  simp [legC] at h ⊢; omega
theorem legC_dig {c : Int} {pos : Nat} (h1 : 48 ≤ c) (h2 : c ≤ 57) (h : 0 < pos) : legC true c (pos : Int) = true := by
  simp [legC]; omega
theorem legC_not {c : Int} (pos : Nat) (h : legC true c 0 = false) (h2 : ¬ (48 ≤ c ∧ c ≤ 57 ∧ 0 < pos)) : legC true c (pos : Int) = false := by
  simp [legC] at h ⊢; omega
/-- The state at the head of the loop over the name. -/
structure UndAt (s : ByteArray) (tot : List UInt8) (kb : Nat) (w wr : World) (a : ByteArray) (pos : Nat) (n : Int) : Prop where
  le : pos ≤ s.size
  all : a.data.toList ++ escFrom 1 s pos = tot
  it : wr.heap[kb]? = some (.stringIter s pos)
  low : w.heap.size ≤ kb
  bel : Below w.heap.size w wr
  cnt : 0 ≤ n ∧ n ≤ pos ∧ (0 < n ↔ 0 < pos)
structure UndIn (s : ByteArray) (tot : List UInt8) (kb : Nat) (w w1 : World) (a : ByteArray) (pos wd c : Nat) (n : Int) : Prop where
  all : a.data.toList ++ (escOne 1 c pos ++ escFrom 1 s (pos + wd)) = tot
  it : w1.heap[kb]? = some (.stringIter s (pos + wd))
  low : w.heap.size ≤ kb
  bel : Below w.heap.size w w1
  le : pos + wd ≤ s.size
  wide : 0 < wd
  cnt : 0 ≤ n ∧ n ≤ pos ∧ (0 < n ↔ 0 < pos)
section
variable {s : ByteArray} {tot : List UInt8} {kb : Nat} {w w1 w2 : World} {a : ByteArray} {pos wd c : Nat} {n : Int}
theorem UndAt.next (h : UndAt s tot kb w w1 a pos n) (hp : pos < s.size) : UndIn s tot kb w (w1.iterAt kb s (pos + (Utf8.decode s pos).2)) a pos (Utf8.decode s pos).2 (Utf8.decode s pos).1 n :=
  ⟨by rw [← escFrom_step 1 s pos hp]; exact h.all, Lib.iterAt_heap w1 kb s pos _ h.it, h.low, Lib.below_iterAt h.bel h.low s _, (decode_fits s pos hp).2, (decode_fits s pos hp).1, h.cnt⟩
theorem UndIn.below (h : UndIn s tot kb w w1 a pos wd c n) (hb : Below w1.heap.size w1 w2) : UndIn s tot kb w w2 a pos wd c n :=
  ⟨h.all, blk_below h.it hb, h.low, h.bel.trans (hb.mono h.bel.size), h.le, h.wide, h.cnt⟩
theorem UndIn.done (h : UndIn s tot kb w w1 a pos wd c n) {b : ByteArray} (hb : escOne 1 c pos = b.data.toList) : UndAt s tot kb w w1 (a ++ b) (pos + wd) (n + 1) :=
  ⟨h.le, by rw [← h.all, hb]; simp, h.it, h.low, h.bel, by have := h.cnt; have := h.wide; omega⟩
theorem UndAt.ends (h : UndAt s tot kb w w1 a pos n) (hp : ¬ pos < s.size) : a.data.toList = tot := by
  have := h.all
  rwa [escFrom_end 1 s pos hp, List.append_nil] at this
theorem UndAt.len (h : UndAt s tot kb w w1 a pos n) (ht : tot.length ≤ 1000000) : a.size ≤ 1000000 := by
  have := congrArg List.length h.all
  rw [List.length_append, Array.length_toList] at this
  show a.data.size ≤ _
  omega
end
set_option maxRecDepth 100000 in
set_option maxHeartbeats 4000000 in
theorem under_calls (s : ByteArray) (hs : s.size ≤ 5000) (w : World) (tb : TBuz w) :
    Calls Tryd.prog 5 #[.string s] w fun e w' => e = .returned (.bool true) ∧ Below w.heap.size w w' := by
  have h1 : (2147483647 < (s.size : Int)) = False := eq_false (by omega)
  have h2 : (5000 < (s.size : Int)) = False := eq_false (by omega)
  have hab := Aside0.mk escF_ab
  have HT := Aside0.mk tb
  clear tb
  go_enter Tryd.func5, Tryd.ntmps5
  go_wp2_with (first | (go_at_call 14; refine (esc_calls' ⟨#[97, 46, 98]⟩ 1 _ HT.out.2 (by decide) (by decide)).mono ?_; rintro e w1 ⟨rfl, hb⟩; rw [hab.out]; have HB1 := Aside0.mk hb; have HT1 := Aside0.mk (TBuz.below HT.out hb); clear hb) | (go_at_call 15; refine (utf8_ValidString.calls s _ _ HT1.out.1 (if_pos (by omega))).mono ?_; rintro e w2 ⟨rfl, hb⟩; have HB2 := Aside0.mk (HB1.out.trans (hb.mono HB1.out.size)); have HT2 := Aside0.mk (TBuz.below HT1.out hb); clear hb; cases Lib.validD s.data.toList))
  · go_ret
    exact ⟨rfl, HB2.out⟩
  have HTO : Aside0 (∃ tot, escFrom 1 s 0 = tot ∧ tot.length ≤ 1000000) := ⟨_, rfl, by have := escFrom_len 1 s s.size 0 (by omega); omega⟩
  obtain ⟨tot, htot, hlen⟩ := HTO.out
  have HTO := Aside0.mk htot
  have HLE := Aside0.mk hlen
  clear htot hlen
  go_loopw [3, 4] (fun v3 v4 wr => ∃ (a : ByteArray) (pos : Nat) (n : Int), v3 = .string a ∧ v4 = .int .i64 n ∧ Aside0 (UndAt s tot w2.heap.size w wr a pos n)) (fun _ _ w' => s.size - w'.iterPos w2.heap.size)
  case atStart => exact ⟨⟨#[]⟩, 0, 0, rfl, rfl, ⟨⟨Nat.zero_le _, HTO.out, World.iter_heap w2 s 0, HB2.out.size, below_alloc HB2.out _, by omega⟩⟩⟩
  case round =>
    obtain ⟨a, pos, n, rfl, rfl, HE⟩ := hrel
    have hm : wr.iterPos w2.heap.size = pos := by simp [World.iterPos, HE.out.it]
    have hasz := HE.out.len HLE.out
    by_cases hp : pos < s.size
    · have hnx : ∀ ty, (Instr.next (.pointer (some ⟨w2.heap.size, 0, none⟩)) true ty).run Tryd.prog wr = _ := fun ty => Lib.run_next_any_at wr w2.heap.size s pos ty HE.out.it hp
      have HI := Aside0.mk (HE.out.next hp)
      have hr1 := decode_le s pos
      generalize hdec : Utf8.decode s pos = d at *
      obtain ⟨c, wd⟩ := d
      simp only at hr1 HI hnx
      have HM : Aside0 (∀ (w3 : World) (a' : ByteArray) (n' : Int), UndAt s tot w2.heap.size w w3 a' (pos + wd) n' → s.size - w3.iterPos w2.heap.size < s.size - wr.iterPos w2.heap.size) := ⟨fun w3 a' n' h => by
        have h3 : w3.iterPos w2.heap.size = pos + wd := by simp [World.iterPos, h.it]
        have := HI.out.wide
        rw [h3, hm]
        omega⟩
      have hcnt := HI.out.cnt
      obtain ⟨hn0, hn1, hn2⟩ := hcnt
      have hple := HI.out.le
      have z1 : (9223372036854775807 < a.size + 1) = False := eq_false (by omega)
      clear hdec hm
      by_cases hc : (c : Int) < 128
      · have hd : decide ((c : Int) < 128) = true := decide_eq_true hc
        obtain ⟨u, rfl⟩ : ∃ u : UInt8, c = u.toNat := ⟨UInt8.ofNat c, by simp; omega⟩
        have hcv := fun W => one_str W u
        by_cases hL : legC true (u.toNat : Int) 0 = true
        · have HLG := Aside0.mk (leg_one u)
          rw [hL] at HLG
          have HO : Aside0 (escOne 1 u.toNat pos = (⟨#[u]⟩ : ByteArray).data.toList) := ⟨by simp [escOne, legC_pos pos hL]⟩
          clear hL
          go_wp2_with (go_at_call 16; refine (laws_legacy.calls 3 ⟨#[u]⟩ true _ _ HLG.out).mono ?_; rintro e w4 ⟨rfl, hdr⟩; have HI2 := Aside0.mk ((HI.out.below (below_alloc (Below.refl _ _) _)).below hdr.below); clear hdr)
          have HN := Aside0.mk ((HI2.out.below (below_alloc (Below.refl _ _) (.cells #[.int .u8 (u.toNat : Int)] 5))).done (b := ⟨#[u]⟩) HO.out)
          go_roundw
          case rel => exact ⟨_, _, _, rfl, rfl, HN⟩
          case measure => exact HM.out _ _ _ HN.out
        · have hL' : legC true (u.toNat : Int) 0 = false := by simpa using hL
          have HLG := Aside0.mk (leg_one u)
          rw [hL'] at HLG
          by_cases h0 : 0 < n
          · by_cases h48 : 48 ≤ (u.toNat : Int)
            · by_cases h57 : (u.toNat : Int) ≤ 57
              · have HO : Aside0 (escOne 1 u.toNat pos = (⟨#[u]⟩ : ByteArray).data.toList) := ⟨by simp [escOne, legC_dig h48 h57 (hn2.1 h0)]⟩
                have d0 : decide (0 < n) = true := decide_eq_true h0
                have d1 : decide (48 ≤ (u.toNat : Int)) = true := decide_eq_true h48
                have d2 : decide ((u.toNat : Int) ≤ 57) = true := decide_eq_true h57
                clear hL hL'
                go_wp2_with (go_at_call 16; refine (laws_legacy.calls 3 ⟨#[u]⟩ true _ _ HLG.out).mono ?_; rintro e w4 ⟨rfl, hdr⟩; have HI2 := Aside0.mk ((HI.out.below (below_alloc (Below.refl _ _) _)).below hdr.below); clear hdr)
                have HN := Aside0.mk ((HI2.out.below (below_alloc (Below.refl _ _) (.cells #[.int .u8 (u.toNat : Int)] 5))).done (b := ⟨#[u]⟩) HO.out)
                go_roundw
                case rel => exact ⟨_, _, _, rfl, rfl, HN⟩
                case measure => exact HM.out _ _ _ HN.out
              · have HO : Aside0 (escOne 1 u.toNat pos = (⟨#[95]⟩ : ByteArray).data.toList) := ⟨by simp [escOne, legC_not pos hL' (by omega)]⟩
                have d0 : decide (0 < n) = true := decide_eq_true h0
                have d1 : decide (48 ≤ (u.toNat : Int)) = true := decide_eq_true h48
                have d2 : decide ((u.toNat : Int) ≤ 57) = false := decide_eq_false h57
                clear hL hL'
                go_wp2_with (go_at_call 16; refine (laws_legacy.calls 3 ⟨#[u]⟩ true _ _ HLG.out).mono ?_; rintro e w4 ⟨rfl, hdr⟩; have HI2 := Aside0.mk ((HI.out.below (below_alloc (Below.refl _ _) _)).below hdr.below); clear hdr)
                have HN := Aside0.mk (HI2.out.done (b := ⟨#[95]⟩) HO.out)
                go_roundw
                case rel => exact ⟨_, _, _, rfl, rfl, HN⟩
                case measure => exact HM.out _ _ _ HN.out
            · have HO : Aside0 (escOne 1 u.toNat pos = (⟨#[95]⟩ : ByteArray).data.toList) := ⟨by simp [escOne, legC_not pos hL' (by omega)]⟩
              have d0 : decide (0 < n) = true := decide_eq_true h0
              have d1 : decide (48 ≤ (u.toNat : Int)) = false := decide_eq_false h48
              clear hL hL'
              go_wp2_with (go_at_call 16; refine (laws_legacy.calls 3 ⟨#[u]⟩ true _ _ HLG.out).mono ?_; rintro e w4 ⟨rfl, hdr⟩; have HI2 := Aside0.mk ((HI.out.below (below_alloc (Below.refl _ _) _)).below hdr.below); clear hdr)
              have HN := Aside0.mk (HI2.out.done (b := ⟨#[95]⟩) HO.out)
              go_roundw
              case rel => exact ⟨_, _, _, rfl, rfl, HN⟩
              case measure => exact HM.out _ _ _ HN.out
          · have HO : Aside0 (escOne 1 u.toNat pos = (⟨#[95]⟩ : ByteArray).data.toList) := ⟨by simp [escOne, legC_not pos hL' (by omega)]⟩
            have d0 : decide (0 < n) = false := decide_eq_false h0
            clear hL hL'
            go_wp2_with (go_at_call 16; refine (laws_legacy.calls 3 ⟨#[u]⟩ true _ _ HLG.out).mono ?_; rintro e w4 ⟨rfl, hdr⟩; have HI2 := Aside0.mk ((HI.out.below (below_alloc (Below.refl _ _) _)).below hdr.below); clear hdr)
            have HN := Aside0.mk (HI2.out.done (b := ⟨#[95]⟩) HO.out)
            go_roundw
            case rel => exact ⟨_, _, _, rfl, rfl, HN⟩
            case measure => exact HM.out _ _ _ HN.out
      · have hd : decide ((c : Int) < 128) = false := decide_eq_false hc
        have HO : Aside0 (escOne 1 c pos = (⟨#[95]⟩ : ByteArray).data.toList) := ⟨by simp [escOne, legC_high true (c : Int) (pos : Int) (by omega)]⟩
        go_wp2
        have HN := Aside0.mk (HI.out.done (b := ⟨#[95]⟩) HO.out)
        go_roundw
        case rel => exact ⟨_, _, _, rfl, rfl, HN⟩
        case measure => exact HM.out _ _ _ HN.out
    · have hnx : ∀ ty, (Instr.next (.pointer (some ⟨w2.heap.size, 0, none⟩)) true ty).run Tryd.prog wr = _ := fun ty => Lib.run_next_end_at wr w2.heap.size s pos ty HE.out.it hp
      have HA := Aside0.mk (HE.out.ends hp)
      clear hp
      have HT3 := Aside0.mk (TBuz.below HT.out HE.out.bel)
      have HQ : Aside0 (escF s 1 = a) := ⟨ba_ext ((escF1_is s).trans (HTO.out.trans HA.out.symm))⟩
      go_wp2_with (go_at_call 14; refine (esc_calls' s 1 _ HT3.out.2 (by omega) (by decide)).mono ?_; rintro e w5 ⟨rfl, hb⟩; rw [HQ.out]; have HB5 := Aside0.mk (HE.out.bel.trans (hb.mono HE.out.bel.size)); clear hb)
      go_ret
      exact ⟨by simp, HB5.out⟩
set_option maxRecDepth 100000 in
set_option maxHeartbeats 1000000 in
theorem under_big (s : ByteArray) (hs : ¬ s.size ≤ 5000) (w : World) (tb : TBuz w) :
    Calls Tryd.prog 5 #[.string s] w fun e w' => e = .returned (.bool true) ∧ Below w.heap.size w w' := by
  by_cases h0 : 2147483647 < (s.size : Int)
  · have h1 : (2147483647 < (s.size : Int)) = True := eq_true h0
    go_enter Tryd.func5, Tryd.ntmps5
    go_wp2
    go_ret
    exact ⟨rfl, Below.refl _ _⟩
  · have h1 : (2147483647 < (s.size : Int)) = False := eq_false h0
    have h2 : (5000 < (s.size : Int)) = True := eq_true (by omega)
    have h3 : decide (5000 < (s.size : Int)) = true := decide_eq_true (by omega)
    have h4 : decide (5000 < s.size) = true := decide_eq_true (by omega)
    have hab := Aside0.mk escF_ab
    have HT := Aside0.mk tb
    clear tb
    go_enter Tryd.func5, Tryd.ntmps5
    go_wp2_with (go_at_call 14; refine (esc_calls' ⟨#[97, 46, 98]⟩ 1 _ HT.out.2 (by decide) (by decide)).mono ?_; rintro e w1 ⟨rfl, hb⟩; rw [hab.out]; have HB1 := Aside0.mk hb; clear hb)
    go_ret
    exact ⟨rfl, HB1.out⟩
def laws_FnUnderscored.f (_ : ByteArray) : Option Bool := some true
theorem laws_FnUnderscored.calls (a0 : ByteArray) (r : Bool) (w : World) (tb : TBuz w) (h : laws_FnUnderscored.f a0 = some r) :
    Calls Tryd.prog 5 #[.string a0] w fun e w' => e = .returned (.bool r) ∧ Below w.heap.size w w' := by
  obtain rfl := Option.some.inj h
  by_cases hs : a0.size ≤ 5000
  · exact under_calls a0 hs w tb
  · exact under_big a0 hs w tb
end Go.Proofs.YtkbaihcamimnjaaDoor.Q
