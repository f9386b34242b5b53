/- What impl.Escape returns: a name by none, underscores, dots and values, at every text of at most 1000000 bytes. Condition: one cell of the table that math/bits.TrailingZeros64 reads. What EscapeName writes by underscores, dots and values. Condition: one cell of the table that math/bits.TrailingZeros64 reads. What impl.Escape returns, at every text of at most 1000000 bytes. Condition: one cell of the table that math/bits.TrailingZeros64 reads. -/
import Derived.Test.YtkbaihcamimnjaaDoorHLegM
import Derived.Test.YtkbaihcamimnjaaDoorHHex
import Derived.Test.YtkbaihcamimnjaaDoorHBld
import Derived.Test.YtkbaihcamimnjaaDoorHSBuild
import Derived.Test.YtkbaihcamimnjaaDoorQutf8ValidRune
set_option linter.unusedVariables false
set_option linter.unusedSimpArgs false
namespace Go.Proofs.YtkbaihcamimnjaaDoor.Q
open Go.RowKit Go.Lib Go.Proofs.YtkbaihcamimnjaaDoorW.PrintWords Go.Proofs.YtkbaihcamimnjaaDoorW.PrintLast Go.Proofs.YtkbaihcamimnjaaDoorW.PrintMore
attribute [local go_sem] max2_int min2_int max_two min_two max_three min_three max_four min_four
theorem decode_wide (s : ByteArray) (pos : Nat) : 1 ≤ (Utf8.decode s pos).2 := by
  unfold Utf8.decode
  dsimp only
  (repeat' split) <;> simp
/-- What is written for a character at a place. -/
def escOne (k c i : Nat) : List UInt8 :=
  if k = 1 then (if legC true c i = true then [UInt8.ofNat c] else [95])
  else if c = 95 then [95, 95]
  else if k = 2 then (if c = 46 then [95, 100, 111, 116, 95] else if legC true c i = true then [UInt8.ofNat c] else [95, 95])
  else (if legC true c i = true then [UInt8.ofNat c] else 95 :: (hexD c ++ [95]))
/-- What is written for a text from a place on. -/
def escFrom (k : Nat) (s : ByteArray) (pos : Nat) : List UInt8 :=
  if h : pos < s.size then escOne k (Utf8.decode s pos).1 pos ++ escFrom k s (pos + (Utf8.decode s pos).2) else []
termination_by s.size - pos
decreasing_by have := decode_wide s pos; omega
theorem escFrom_step (k : Nat) (s : ByteArray) (pos : Nat) (h : pos < s.size) : escFrom k s pos = escOne k (Utf8.decode s pos).1 pos ++ escFrom k s (pos + (Utf8.decode s pos).2) := by
  rw [escFrom, dif_pos h]
theorem escFrom_end (k : Nat) (s : ByteArray) (pos : Nat) (h : ¬ pos < s.size) : escFrom k s pos = [] := by
  rw [escFrom, dif_neg h]
theorem hexD_len : ∀ (m n : Nat), n < 16 ^ (m + 1) → (hexD n).length ≤ m + 1
  | 0, n, h => by rw [hexD, dif_pos (by omega)]; exact Nat.le_refl _
  | m + 1, n, h => by
    rw [hexD]
    split
    · show 1 ≤ _; omega
    · rw [List.length_append]
      have := hexD_len m (n / 16) (by rw [Nat.pow_succ] at h; omega)
      show _ + 1 ≤ _
      omega
theorem escOne_len (k c i : Nat) (hc : c ≤ 2147483647) : (escOne k c i).length ≤ 10 := by
  have h : (hexD c).length ≤ 8 := hexD_len 7 c (by omega)
  unfold escOne
  repeat' split
  all_goals simp
  omega
theorem escFrom_len (k : Nat) (s : ByteArray) : ∀ (d pos : Nat), s.size ≤ pos + d → (escFrom k s pos).length ≤ 10 * d
  | d, pos, h => by
    by_cases hp : pos < s.size
    · obtain ⟨d, rfl⟩ : ∃ m, d = m + 1 := ⟨d - 1, by omega⟩
      have h1 := decode_wide s pos
      rw [escFrom_step k s pos hp, List.length_append]
      have h2 := escOne_len k _ pos (decode_le s pos)
      have h3 := escFrom_len k s d (pos + (Utf8.decode s pos).2) (by omega)
      omega
    · rw [escFrom_end k s pos hp]; exact Nat.zero_le _
theorem IsB.below {B b : Nat} {acc : List UInt8} {w w' : World} (h : IsB B b acc w) (hb : Below w.heap.size w w') : IsB B b acc w' := by
  have one : ∀ p, BAt B b p acc w → BAt B b p acc w' := fun p h => by
    obtain ⟨hB, v, hbk, ho, hne⟩ := h
    have hlt : b < w.heap.size := (Array.getElem?_eq_some_iff.1 hbk).1
    refine ⟨hB, v, (hb.block b hlt).trans hbk, World.ownsRow.kept ho (grown_of_below hb none) ?_, hne⟩
    cases hv : v.ownBlock
    · exact .inl rfl
    · exact .inr (by simp)
  exact h.elim (fun x => .inl (one _ x)) (fun x => .inr (one _ x))
theorem IsB.iterAt {B b : Nat} {acc : List UInt8} {w : World} (h : IsB B b acc w) {k : Nat} {s : ByteArray} {pos : Nat} (hk : w.heap[k]? = some (.stringIter s pos)) (pos' : Nat) : IsB B b acc (w.iterAt k s pos') := by
  have one : ∀ p, BAt B b p acc w → BAt B b p acc (w.iterAt k s pos') := fun p h => by
    obtain ⟨hB, v, hb, ho, hne⟩ := h
    have hkb : b ≠ k := by
      intro e1
      rw [e1, hk] at hb
      cases hb
    refine ⟨hB, v, (iterAt_other w k b s pos' hkb).trans hb, ⟨ho.1, ?_⟩, hne⟩
    rcases ho.2 with hn | ⟨g, cap, cur, hv, hbg, hg, rest⟩
    · exact .inl hn
    · have hkg : g ≠ k := by
        intro e1
        rw [e1, hk] at hg
        cases hg
      exact .inr ⟨g, cap, cur, hv, hbg, (iterAt_other w k g s pos' hkg).trans hg, rest⟩
  exact h.elim (fun x => .inl (one _ x)) (fun x => .inr (one _ x))
theorem KeepO.iter {b : Nat} {w w' : World} (h : KeepO b w w') {k : Nat} {s : ByteArray} {pos : Nat} (hk : w.heap[k]? = some (.stringIter s pos)) (hkb : k ≠ b) : w'.heap[k]? = some (.stringIter s pos) :=
  h k _ hk hkb (fun _ _ e1 => by cases e1)
/-- The state at the head of the loop over the name: the builder in block b, the iterator in block kb, what is written and what is to come. -/
structure EscAt (k : Nat) (s : ByteArray) (tot : List UInt8) (b kb : Nat) (w wr : World) (acc : List UInt8) (pos : Nat) : Prop where
  le : pos ≤ s.size
  all : acc ++ escFrom k s pos = tot
  bld : IsB b b acc wr
  it : wr.heap[kb]? = some (.stringIter s pos)
  ne : kb ≠ b
  low : b ≤ kb
  bel : Below w.heap.size w wr
  at0 : b = w.heap.size
theorem EscAt.len {k : Nat} {s : ByteArray} {tot : List UInt8} {b kb : Nat} {w wr : World} {acc : List UInt8} {pos : Nat} (h : EscAt k s tot b kb w wr acc pos) (ht : tot.length ≤ 20000000) : acc.length ≤ 20000000 := by
  have := congrArg List.length h.all
  rw [List.length_append] at this
  omega
theorem decode_fits (s : ByteArray) (pos : Nat) (h : pos < s.size) : 0 < (Utf8.decode s pos).2 ∧ pos + (Utf8.decode s pos).2 ≤ s.size := by
  refine ⟨decode_wide s pos, ?_⟩
  unfold Utf8.decode
  dsimp only
  (repeat' split) <;> simp_all <;> omega
/-- What decoding yields is a character. -/
theorem decode_val (s : ByteArray) (pos : Nat) : utf8_ValidRune.f 3 ((Utf8.decode s pos).1 : Int) = some true := by
  have h : (Utf8.decode s pos).1 < 55296 ∨ (57343 < (Utf8.decode s pos).1 ∧ (Utf8.decode s pos).1 ≤ 1114111) := by
    unfold Utf8.decode
    dsimp only
    (repeat' split) <;> simp_all [Utf8.valid, Utf8.runeError] <;> omega
  generalize (Utf8.decode s pos).1 = c at h
  unfold utf8_ValidRune.f
  rw [if_pos (by omega)]
  simp only [utf8_ValidRune.j0]
  rcases h with h | ⟨h, h2⟩
  · rw [if_pos (decide_eq_true (by omega))]
  · rw [if_neg (by simp; omega), if_pos (by omega), if_pos (by omega)]
theorem isB_lt {B b : Nat} {acc : List UInt8} {w : World} (h : IsB B b acc w) : b < w.heap.size := by
  rcases h with ⟨_, v, hb, _⟩ | ⟨_, v, hb, _⟩ <;> exact (Array.getElem?_eq_some_iff.1 hb).1
end Go.Proofs.YtkbaihcamimnjaaDoor.Q
namespace Go.Proofs.YtkbaihcamimnjaaDoor.Q
open Go.RowKit Go.Lib Go.Proofs.YtkbaihcamimnjaaDoorW.PrintWords Go.Proofs.YtkbaihcamimnjaaDoorW.PrintLast Go.Proofs.YtkbaihcamimnjaaDoorW.PrintMore
attribute [local go_sem] max2_int min2_int max_two min_two max_three min_three max_four min_four
theorem legRuneF (c i : Nat) {b : Bool} (h : legC true c i = b) : model_isValidLegacyRune.f (c : Int) (i : Int) = some b := by rw [legRune, h]
theorem legC_small {c i : Nat} (h : legC true c i = true) : c < 128 := by
  simp [legC] at h
  omega
/-- The state within a round: what is written, what is to be written of this round, the place behind it. -/
structure EscIn (k : Nat) (s : ByteArray) (tot : List UInt8) (kb : Nat) (w w1 : World) (acc out : List UInt8) (pos : Nat) : Prop where
  all : acc ++ (out ++ escFrom k s pos) = tot
  bld : IsB w.heap.size w.heap.size acc w1
  it : w1.heap[kb]? = some (.stringIter s pos)
  bel : Below w.heap.size w w1
section
variable {k : Nat} {s : ByteArray} {tot : List UInt8} {kb : Nat} {w w1 w2 : World} {acc out p : List UInt8} {pos : Nat}
theorem EscIn.step (h : EscIn k s tot kb w w1 acc (p ++ out) pos) (hne : kb ≠ w.heap.size) (hI : IsB w.heap.size w.heap.size (acc ++ p) w2) (hB : Below w.heap.size w1 w2) (hK : KeepO w.heap.size w1 w2) : EscIn k s tot kb w w2 (acc ++ p) out pos :=
  ⟨by rw [← h.all]; simp, hI, hK.iter h.it hne, h.bel.trans hB⟩
theorem EscIn.done (h : EscIn k s tot kb w w1 acc [] pos) (hle : pos ≤ s.size) (hne : kb ≠ w.heap.size) (hlow : w.heap.size ≤ kb) : EscAt k s tot w.heap.size kb w w1 acc pos :=
  ⟨hle, h.all, h.bld, h.it, hne, hlow, h.bel, rfl⟩
theorem EscIn.below (h : EscIn k s tot kb w w1 acc out pos) (hd : Below w1.heap.size w1 w2) : EscIn k s tot kb w w2 acc out pos :=
  ⟨h.all, h.bld.below hd, blk_below h.it hd, h.bel.trans (hd.mono h.bel.size)⟩
theorem EscIn.drawn (h : EscIn k s tot kb w w1 acc out pos) (hd : Drawn0 w1 w2) : EscIn k s tot kb w w2 acc out pos := h.below hd.below
theorem EscIn.len (h : EscIn k s tot kb w w1 acc out pos) (ht : tot.length ≤ 20000000) : acc.length + out.length ≤ 20000000 := by
  have := congrArg List.length h.all
  rw [List.length_append, List.length_append] at this
  omega
theorem EscAt.next (h : EscAt k s tot w.heap.size kb w w1 acc pos) (hp : pos < s.size) :
    EscIn k s tot kb w (w1.iterAt kb s (pos + (Utf8.decode s pos).2)) acc (escOne k (Utf8.decode s pos).1 pos) (pos + (Utf8.decode s pos).2) :=
  ⟨by rw [← escFrom_step k s pos hp]; exact h.all, h.bld.iterAt h.it _, Lib.iterAt_heap w1 kb s pos _ h.it, Lib.below_iterAt h.bel h.low s _⟩
end
theorem EscAt.start {k : Nat} {s : ByteArray} {tot : List UInt8} {w w0 w1 : World} (hF : IsB w.heap.size w.heap.size [] w0) (hB : Below w.heap.size w w0) (hB1 : Below w0.heap.size w0 w1) (hlt : w.heap.size < w0.heap.size) (ht : escFrom k s 0 = tot) : EscAt k s tot w.heap.size w1.heap.size w (w1.iter s 0) [] 0 :=
  ⟨Nat.zero_le _, ht, (hF.below hB1).below (below_alloc (Below.refl _ _) _), World.iter_heap w1 s 0, by have := hB1.size; omega, by have := hB1.size; omega, below_alloc (hB.trans (hB1.mono hB.size)) _, rfl⟩
theorem EscAt.ends {k : Nat} {s : ByteArray} {tot : List UInt8} {kb : Nat} {w wr : World} {acc : List UInt8} {pos : Nat} (h : EscAt k s tot w.heap.size kb w wr acc pos) (hp : ¬ pos < s.size) : acc = tot := by
  have := h.all
  rwa [escFrom_end k s pos hp, List.append_nil] at this
set_option maxRecDepth 100000 in
set_option maxHeartbeats 4000000 in
theorem esc1_calls (s : ByteArray) (hs0 : 0 < s.size) (hs : s.size ≤ 1000000) (hl : legB true s = false) (w : World) :
    Calls Tryd.prog 28 #[.string s, .int .i64 1] w fun e w' => e = .returned (.string ⟨(escFrom 1 s 0).toArray⟩) ∧ Below w.heap.size w w' := by
  have hz1 : (((s.size : Nat) : Int) == 0) = false := beq_eq_false_iff_ne.2 (by omega)
  have HB := Aside0.mk (below_alloc (Below.refl w.heap.size w) (.cells #[.pointer none, .slice none 0 0] 73))
  have HF : Aside0 (IsB w.heap.size w.heap.size [] (w.alloc (.cells #[.pointer none, .slice none 0 0] 73))) := ⟨fresh_isBuilder _ _ _⟩
  have HT : Aside0 (∃ tot, escFrom 1 s 0 = tot ∧ tot.length ≤ 20000000) := ⟨_, rfl, by have := escFrom_len 1 s s.size 0 (by omega); omega⟩
  obtain ⟨tot, htot, hlen⟩ := HT.out
  rw [htot]
  have HTO := Aside0.mk htot
  have HLE := Aside0.mk hlen
  clear HT htot hlen
  have HL := Aside0.mk hl
  clear hl
  go_enter Tryd.func28, Tryd.ntmps28
  go_wp2_with (go_at_call 30; refine (IsValidLegacyMetricName_calls s _).mono ?_; rintro e w1 ⟨rfl, hB1⟩; rw [HL.out]; have HB1 := Aside0.mk hB1; clear hB1)
  have HNE : Aside0 (w1.heap.size ≠ w.heap.size) := ⟨by have := HB1.out.size; simp at this; omega⟩
  have HNE2 : Aside0 (w.heap.size ≤ w1.heap.size) := ⟨by have := HB1.out.size; simp at this; omega⟩
  go_loopw [] (fun w' => ∃ (pos : Nat) (acc : List UInt8), Aside0 (EscAt 1 s tot w.heap.size w1.heap.size w w' acc pos)) (fun w' => s.size - w'.iterPos w1.heap.size)
  case atStart => exact ⟨0, [], ⟨EscAt.start HF.out HB.out HB1.out (by simp) HTO.out⟩⟩
  case round =>
    obtain ⟨pos, acc, HE⟩ := hrel
    have hm : wr.iterPos w1.heap.size = pos := by simp [World.iterPos, HE.out.it]
    by_cases hp : pos < s.size
    · have hnx : ∀ ty, (Instr.next (.pointer (some ⟨w1.heap.size, 0, none⟩)) true ty).run Tryd.prog wr = _ := fun ty => Lib.run_next_any_at wr w1.heap.size s pos ty HE.out.it hp
      have HI := Aside0.mk (HE.out.next hp)
      have hr1 := decode_le s pos
      have HVA := Aside0.mk (decode_val s pos)
      have HW := Aside0.mk (decode_fits s pos hp)
      generalize hdec : Utf8.decode s pos = d at *
      obtain ⟨c, wd⟩ := d
      simp only at hr1 HI hnx HW HVA
      have HM : Aside0 (∀ (w3 : World) (acc' : List UInt8), EscAt 1 s tot w.heap.size w1.heap.size w w3 acc' (pos + wd) → s.size - w3.iterPos w1.heap.size < s.size - wr.iterPos w1.heap.size) := ⟨fun w3 acc' h => by
        have h3 : w3.iterPos w1.heap.size = pos + wd := by simp [World.iterPos, h.it]
        have := HW.out
        rw [h3, hm]
        omega⟩
      clear hdec hm
      cases hc : legC true c pos
      · have HR := Aside0.mk (legRuneF c pos hc)
        have HO : Aside0 (escOne 1 c pos = [95] ++ []) := ⟨by simp [escOne, hc]⟩
        rw [HO.out] at HI
        clear hc
        go_wp2_with (first | (go_at_call 44; refine (model_isValidLegacyRune.calls _ _ _ _ HR.out).mono ?_; rintro e w2 ⟨rfl, hdr⟩; have HI2 := Aside0.mk (HI.out.drawn hdr); clear hdr) | (go_at_call 45; refine (writeRune_calls _ _ acc 95 (by decide) _ HI2.out.bld (by have := HI.out.len HLE.out; simp at this; omega) HI2.out.bel.size).mono ?_; rintro e w3 ⟨⟨n3, rfl⟩, hu, hB, hK⟩; have HN := Aside0.mk ((HI2.out.step HNE.out hu hB hK).done HW.out.2 HNE.out HNE2.out); clear hu hB hK))
        go_roundw
        case rel => exact ⟨_, _, HN⟩
        case measure => exact HM.out _ _ HN.out
      · obtain ⟨u, rfl⟩ : ∃ u : UInt8, c = u.toNat := ⟨UInt8.ofNat c, by have := legC_small hc; simp; omega⟩
        have HU := Aside0.mk (legC_small hc)
        have HR := Aside0.mk (legRuneF u.toNat pos hc)
        have HO : Aside0 (escOne 1 u.toNat pos = [u] ++ []) := ⟨by simp [escOne, hc]⟩
        rw [HO.out] at HI
        clear hc
        go_wp2_with (first | (go_at_call 44; refine (model_isValidLegacyRune.calls _ _ _ _ HR.out).mono ?_; rintro e w2 ⟨rfl, hdr⟩; have HI2 := Aside0.mk (HI.out.drawn hdr); clear hdr) | (go_at_call 45; refine (writeRune_calls _ _ acc u HU.out _ HI2.out.bld (by have := HI.out.len HLE.out; simp at this; omega) HI2.out.bel.size).mono ?_; rintro e w3 ⟨⟨n3, rfl⟩, hu, hB, hK⟩; have HN := Aside0.mk ((HI2.out.step HNE.out hu hB hK).done HW.out.2 HNE.out HNE2.out); clear hu hB hK))
        go_roundw
        case rel => exact ⟨_, _, HN⟩
        case measure => exact HM.out _ _ HN.out
    · have hnx : ∀ ty, (Instr.next (.pointer (some ⟨w1.heap.size, 0, none⟩)) true ty).run Tryd.prog wr = _ := fun ty => Lib.run_next_end_at wr w1.heap.size s pos ty HE.out.it hp
      have HA := Aside0.mk (HE.out.ends hp)
      clear hp
      go_wp2_with (go_at_call 46; refine (Tryd.Builder_String_any _ _ _ _ HE.out.bld HE.out.bel.size).mono ?_; rintro e w3 ⟨rfl, hB3⟩; have HX := Aside0.mk (HE.out.bel.trans hB3); clear hB3)
      first | (rw [Exit.noGoto_ret]; go_ret) | go_ret
      exact ⟨by rw [HA.out]; rfl, HX.out⟩
set_option maxRecDepth 100000 in
set_option maxHeartbeats 4000000 in
theorem esc2_calls (s : ByteArray) (hs0 : 0 < s.size) (hs : s.size ≤ 1000000) (w : World) :
    Calls Tryd.prog 28 #[.string s, .int .i64 2] w fun e w' => e = .returned (.string ⟨(escFrom 2 s 0).toArray⟩) ∧ Below w.heap.size w w' := by
  have hz1 : (((s.size : Nat) : Int) == 0) = false := beq_eq_false_iff_ne.2 (by omega)
  have HB := Aside0.mk (below_alloc (Below.refl w.heap.size w) (.cells #[.pointer none, .slice none 0 0] 73))
  have HF : Aside0 (IsB w.heap.size w.heap.size [] (w.alloc (.cells #[.pointer none, .slice none 0 0] 73))) := ⟨fresh_isBuilder _ _ _⟩
  have HT : Aside0 (∃ tot, escFrom 2 s 0 = tot ∧ tot.length ≤ 20000000) := ⟨_, rfl, by have := escFrom_len 2 s s.size 0 (by omega); omega⟩
  obtain ⟨tot, htot, hlen⟩ := HT.out
  rw [htot]
  have HTO := Aside0.mk htot
  have HLE := Aside0.mk hlen
  clear HT htot hlen
  have HNE : Aside0 (w.heap.size + 1 ≠ w.heap.size) := ⟨by omega⟩
  have HNE2 : Aside0 (w.heap.size ≤ w.heap.size + 1) := ⟨by omega⟩
  go_enter Tryd.func28, Tryd.ntmps28
  go_wp2
  go_loopw [] (fun w' => ∃ (pos : Nat) (acc : List UInt8), Aside0 (EscAt 2 s tot w.heap.size (w.heap.size + 1) w w' acc pos)) (fun w' => s.size - w'.iterPos (w.heap.size + 1))
  case atStart => exact ⟨0, [], ⟨by have z := EscAt.start HF.out HB.out (Below.refl _ _) (by simp) HTO.out; simpa using z⟩⟩
  case round =>
    obtain ⟨pos, acc, HE⟩ := hrel
    have hm : wr.iterPos (w.heap.size + 1) = pos := by simp [World.iterPos, HE.out.it]
    by_cases hp : pos < s.size
    · have hnx : ∀ ty, (Instr.next (.pointer (some ⟨w.heap.size + 1, 0, none⟩)) true ty).run Tryd.prog wr = _ := fun ty => Lib.run_next_any_at wr (w.heap.size + 1) s pos ty HE.out.it hp
      have HI := Aside0.mk (HE.out.next hp)
      have hr1 := decode_le s pos
      have HVA := Aside0.mk (decode_val s pos)
      have HW := Aside0.mk (decode_fits s pos hp)
      generalize hdec : Utf8.decode s pos = d at *
      obtain ⟨c, wd⟩ := d
      simp only at hr1 HI hnx HW HVA
      have HM : Aside0 (∀ (w3 : World) (acc' : List UInt8), EscAt 2 s tot w.heap.size (w.heap.size + 1) w w3 acc' (pos + wd) → s.size - w3.iterPos (w.heap.size + 1) < s.size - wr.iterPos (w.heap.size + 1)) := ⟨fun w3 acc' h => by
        have h3 : w3.iterPos (w.heap.size + 1) = pos + wd := by simp [World.iterPos, h.it]
        have := HW.out
        rw [h3, hm]
        omega⟩
      clear hdec hm
      by_cases h95 : c = 95
      · subst h95
        have HO : Aside0 (escOne 2 95 pos = [95, 95] ++ []) := ⟨by simp [escOne]⟩
        rw [HO.out] at HI
        go_wp2_with (first | (go_at_call 47; refine (writeString_calls _ _ acc ⟨#[95, 95]⟩ _ HI.out.bld (by have := HI.out.len HLE.out; simp at this; show acc.length + 2 ≤ _; omega) HI.out.bel.size).mono ?_; rintro e w3 ⟨rfl, hu, hB, hK⟩; have HN := Aside0.mk ((HI.out.step HNE.out hu hB hK).done HW.out.2 HNE.out HNE2.out); clear hu hB hK))
        go_roundw
        case rel => exact ⟨_, _, HN⟩
        case measure => exact HM.out _ _ HN.out
      have b95 : ((c : Int) == 95) = false := beq_eq_false_iff_ne.2 (by omega)
      by_cases h46 : c = 46
      · subst h46
        have HO : Aside0 (escOne 2 46 pos = [95, 100, 111, 116, 95] ++ []) := ⟨by simp [escOne]⟩
        rw [HO.out] at HI
        go_wp2_with (first | (go_at_call 47; refine (writeString_calls _ _ acc ⟨#[95, 100, 111, 116, 95]⟩ _ HI.out.bld (by have := HI.out.len HLE.out; simp at this; show acc.length + 5 ≤ _; omega) HI.out.bel.size).mono ?_; rintro e w3 ⟨rfl, hu, hB, hK⟩; have HN := Aside0.mk ((HI.out.step HNE.out hu hB hK).done HW.out.2 HNE.out HNE2.out); clear hu hB hK))
        go_roundw
        case rel => exact ⟨_, _, HN⟩
        case measure => exact HM.out _ _ HN.out
      have b46 : ((c : Int) == 46) = false := beq_eq_false_iff_ne.2 (by omega)
      cases hc : legC true c pos
      · have HR := Aside0.mk (legRuneF c pos hc)
        have HO : Aside0 (escOne 2 c pos = [95, 95] ++ []) := ⟨by simp [escOne, hc, h46]⟩
        rw [HO.out] at HI
        clear hc
        go_wp2_with (first | (go_at_call 44; refine (model_isValidLegacyRune.calls _ _ _ _ HR.out).mono ?_; rintro e w2 ⟨rfl, hdr⟩; have HI2 := Aside0.mk (HI.out.drawn hdr); clear hdr) | (go_at_call 47; refine (writeString_calls _ _ acc ⟨#[95, 95]⟩ _ HI2.out.bld (by have := HI.out.len HLE.out; simp at this; show acc.length + 2 ≤ _; omega) HI2.out.bel.size).mono ?_; rintro e w3 ⟨rfl, hu, hB, hK⟩; have HN := Aside0.mk ((HI2.out.step HNE.out hu hB hK).done HW.out.2 HNE.out HNE2.out); clear hu hB hK))
        go_roundw
        case rel => exact ⟨_, _, HN⟩
        case measure => exact HM.out _ _ HN.out
      · obtain ⟨u, rfl⟩ : ∃ u : UInt8, c = u.toNat := ⟨UInt8.ofNat c, by have := legC_small hc; simp; omega⟩
        have HU := Aside0.mk (legC_small hc)
        have HR := Aside0.mk (legRuneF u.toNat pos hc)
        have HO : Aside0 (escOne 2 u.toNat pos = [u] ++ []) := ⟨by simp [escOne, hc, h46, h95]⟩
        rw [HO.out] at HI
        clear hc h95 h46
        go_wp2_with (first | (go_at_call 44; refine (model_isValidLegacyRune.calls _ _ _ _ HR.out).mono ?_; rintro e w2 ⟨rfl, hdr⟩; have HI2 := Aside0.mk (HI.out.drawn hdr); clear hdr) | (go_at_call 45; refine (writeRune_calls _ _ acc u HU.out _ HI2.out.bld (by have := HI.out.len HLE.out; simp at this; omega) HI2.out.bel.size).mono ?_; rintro e w3 ⟨⟨n3, rfl⟩, hu, hB, hK⟩; have HN := Aside0.mk ((HI2.out.step HNE.out hu hB hK).done HW.out.2 HNE.out HNE2.out); clear hu hB hK))
        go_roundw
        case rel => exact ⟨_, _, HN⟩
        case measure => exact HM.out _ _ HN.out
    · have hnx : ∀ ty, (Instr.next (.pointer (some ⟨w.heap.size + 1, 0, none⟩)) true ty).run Tryd.prog wr = _ := fun ty => Lib.run_next_end_at wr (w.heap.size + 1) s pos ty HE.out.it hp
      have HA := Aside0.mk (HE.out.ends hp)
      clear hp
      go_wp2_with (go_at_call 46; refine (Tryd.Builder_String_any _ _ _ _ HE.out.bld HE.out.bel.size).mono ?_; rintro e w3 ⟨rfl, hB3⟩; have HX := Aside0.mk (HE.out.bel.trans hB3); clear hB3)
      first | (rw [Exit.noGoto_ret]; go_ret) | go_ret
      exact ⟨by rw [HA.out]; rfl, HX.out⟩
set_option maxRecDepth 100000 in
set_option maxHeartbeats 4000000 in
theorem esc3_calls (s : ByteArray) (hs0 : 0 < s.size) (hs : s.size ≤ 1000000) (hl : legB true s = false) (w : World) (tb : TBz w) :
    Calls Tryd.prog 28 #[.string s, .int .i64 3] w fun e w' => e = .returned (.string ⟨([85, 95, 95] ++ escFrom 3 s 0).toArray⟩) ∧ Below w.heap.size w w' := by
  have hz1 : (((s.size : Nat) : Int) == 0) = false := beq_eq_false_iff_ne.2 (by omega)
  have HB := Aside0.mk (below_alloc (Below.refl w.heap.size w) (.cells #[.pointer none, .slice none 0 0] 73))
  have HF : Aside0 (IsB w.heap.size w.heap.size [] (w.alloc (.cells #[.pointer none, .slice none 0 0] 73))) := ⟨fresh_isBuilder _ _ _⟩
  have HT : Aside0 (∃ tot, [85, 95, 95] ++ escFrom 3 s 0 = tot ∧ tot.length ≤ 20000000) := ⟨_, rfl, by have := escFrom_len 3 s s.size 0 (by omega); rw [List.length_append]; show 3 + _ ≤ _; omega⟩
  obtain ⟨tot, htot, hlen⟩ := HT.out
  rw [htot]
  have HTO := Aside0.mk htot
  have HLE := Aside0.mk hlen
  clear HT htot hlen
  have HL := Aside0.mk hl
  have HZ := Aside0.mk tb
  clear hl tb
  go_enter Tryd.func28, Tryd.ntmps28
  go_wp2_with (first | (go_at_call 30; refine (IsValidLegacyMetricName_calls s _).mono ?_; rintro e w0 ⟨rfl, hB1⟩; rw [HL.out]; have HB0 := Aside0.mk hB1; clear hB1) | (go_at_call 47; refine (writeString_calls w.heap.size w.heap.size [] ⟨#[85, 95, 95]⟩ _ (HF.out.below HB0.out) (by decide) (by have := HB0.out.size; simp at this; omega)).mono ?_; rintro e w1 ⟨rfl, hu, hB, hK⟩; have HF1 := Aside0.mk hu; have HB1 : Aside0 (Below w.heap.size w w1) := ⟨(HB.out.trans (HB0.out.mono HB.out.size)).trans hB⟩; have HS1 : Aside0 (w.heap.size < w1.heap.size) := ⟨by have h1 := HB0.out.size; have h2 := hB.size; simp at h1; have h3 := isB_lt hu; omega⟩; clear hu hB hK))
  have HNE : Aside0 (w1.heap.size ≠ w.heap.size) := ⟨by have := HS1.out; omega⟩
  have HNE2 : Aside0 (w.heap.size ≤ w1.heap.size) := ⟨by have := HS1.out; omega⟩
  go_loopw [] (fun w' => ∃ (pos : Nat) (acc : List UInt8), Aside0 (EscAt 3 s tot w.heap.size w1.heap.size w w' acc pos)) (fun w' => s.size - w'.iterPos w1.heap.size)
  case atStart => exact ⟨0, [85, 95, 95], ⟨⟨Nat.zero_le _, HTO.out, HF1.out.below (below_alloc (Below.refl _ _) _), World.iter_heap w1 s 0, HNE.out, HNE2.out, below_alloc HB1.out _, rfl⟩⟩⟩
  case round =>
    obtain ⟨pos, acc, HE⟩ := hrel
    have hm : wr.iterPos w1.heap.size = pos := by simp [World.iterPos, HE.out.it]
    by_cases hp : pos < s.size
    · have hnx : ∀ ty, (Instr.next (.pointer (some ⟨w1.heap.size, 0, none⟩)) true ty).run Tryd.prog wr = _ := fun ty => Lib.run_next_any_at wr w1.heap.size s pos ty HE.out.it hp
      have HI := Aside0.mk (HE.out.next hp)
      have hr1 := decode_le s pos
      have HVA := Aside0.mk (decode_val s pos)
      have HW := Aside0.mk (decode_fits s pos hp)
      generalize hdec : Utf8.decode s pos = d at *
      obtain ⟨c, wd⟩ := d
      simp only at hr1 HI hnx HW HVA
      have HM : Aside0 (∀ (w3 : World) (acc' : List UInt8), EscAt 3 s tot w.heap.size w1.heap.size w w3 acc' (pos + wd) → s.size - w3.iterPos w1.heap.size < s.size - wr.iterPos w1.heap.size) := ⟨fun w3 acc' h => by
        have h3 : w3.iterPos w1.heap.size = pos + wd := by simp [World.iterPos, h.it]
        have := HW.out
        rw [h3, hm]
        omega⟩
      clear hdec hm
      by_cases h95 : c = 95
      · subst h95
        have HO : Aside0 (escOne 3 95 pos = [95, 95] ++ []) := ⟨by simp [escOne]⟩
        rw [HO.out] at HI
        go_wp2_with (first | (go_at_call 47; refine (writeString_calls _ _ acc ⟨#[95, 95]⟩ _ HI.out.bld (by have := HI.out.len HLE.out; simp at this; show acc.length + 2 ≤ _; omega) HI.out.bel.size).mono ?_; rintro e w3 ⟨rfl, hu, hB, hK⟩; have HN := Aside0.mk ((HI.out.step HNE.out hu hB hK).done HW.out.2 HNE.out HNE2.out); clear hu hB hK))
        go_roundw
        case rel => exact ⟨_, _, HN⟩
        case measure => exact HM.out _ _ HN.out
      have b95 : ((c : Int) == 95) = false := beq_eq_false_iff_ne.2 (by omega)
      cases hc : legC true c pos
      · have HR := Aside0.mk (legRuneF c pos hc)
        have HO : Aside0 (escOne 3 c pos = [95] ++ (hexD c ++ ([95] ++ []))) := ⟨by simp [escOne, hc, h95]⟩
        have HC : Aside0 (c ≤ 2147483647) := ⟨hr1⟩
        rw [HO.out] at HI
        have hcast : ((c : Int)) = ((c : Nat) : Int) := rfl
        clear hc
        go_wp2_with (first | (go_at_call 44; refine (model_isValidLegacyRune.calls _ _ _ _ HR.out).mono ?_; rintro e w2 ⟨rfl, hdr⟩; have HI2 := Aside0.mk (HI.out.drawn hdr); clear hdr) | (go_at_call 48; refine (utf8_ValidRune.calls 3 (c : Int) true _ HVA.out).mono ?_; rintro e w3 ⟨rfl, hdr⟩; have HI3 := Aside0.mk (HI2.out.drawn hdr); clear hdr) | fail)
        refine (writeRune_calls _ _ acc 95 (by decide) _ HI3.out.bld (by have := HI3.out.len HLE.out; simp at this; omega) HI3.out.bel.size).mono ?_
        rintro e w4 ⟨⟨n4, rfl⟩, hu, hB, hK⟩
        have HI4 := Aside0.mk (HI3.out.step HNE.out hu hB hK)
        clear hu hB hK
        go_wp2_with fail
        refine (fmtInt16 c (by have := HC.out; omega) _ (HZ.out.below HI4.out.bel)).mono ?_
        rintro e w5 ⟨rfl, hB⟩
        have HI5 := Aside0.mk (HI4.out.below hB)
        clear hB
        go_wp2_with fail
        refine (writeString_calls _ _ _ ⟨(hexD c).toArray⟩ _ HI5.out.bld (by have := HI5.out.len HLE.out; show _ + (hexD c).toArray.size ≤ _; rw [List.size_toArray]; simp only [List.length_append, List.length_cons, List.length_nil] at this ⊢; omega) HI5.out.bel.size).mono ?_
        rintro e w6 ⟨rfl, hu, hB, hK⟩
        have HI6 := Aside0.mk (HI5.out.step HNE.out hu hB hK)
        clear hu hB hK
        go_wp2_with fail
        refine (writeRune_calls _ _ _ 95 (by decide) _ HI6.out.bld (by have := HI6.out.len HLE.out; simp only [List.length_append, List.length_cons, List.length_nil] at this ⊢; omega) HI6.out.bel.size).mono ?_
        rintro e w7 ⟨⟨n7, rfl⟩, hu, hB, hK⟩
        have HN := Aside0.mk ((HI6.out.step HNE.out hu hB hK).done HW.out.2 HNE.out HNE2.out)
        clear hu hB hK
        go_wp2
        go_roundw
        case rel => exact ⟨_, _, HN⟩
        case measure => exact HM.out _ _ HN.out
      · obtain ⟨u, rfl⟩ : ∃ u : UInt8, c = u.toNat := ⟨UInt8.ofNat c, by have := legC_small hc; simp; omega⟩
        have HU := Aside0.mk (legC_small hc)
        have HR := Aside0.mk (legRuneF u.toNat pos hc)
        have HO : Aside0 (escOne 3 u.toNat pos = [u] ++ []) := ⟨by simp [escOne, hc, h95]⟩
        rw [HO.out] at HI
        clear hc h95
        go_wp2_with (first | (go_at_call 44; refine (model_isValidLegacyRune.calls _ _ _ _ HR.out).mono ?_; rintro e w2 ⟨rfl, hdr⟩; have HI2 := Aside0.mk (HI.out.drawn hdr); clear hdr) | (go_at_call 45; refine (writeRune_calls _ _ acc u HU.out _ HI2.out.bld (by have := HI.out.len HLE.out; simp at this; omega) HI2.out.bel.size).mono ?_; rintro e w3 ⟨⟨n3, rfl⟩, hu, hB, hK⟩; have HN := Aside0.mk ((HI2.out.step HNE.out hu hB hK).done HW.out.2 HNE.out HNE2.out); clear hu hB hK))
        go_roundw
        case rel => exact ⟨_, _, HN⟩
        case measure => exact HM.out _ _ HN.out
    · have hnx : ∀ ty, (Instr.next (.pointer (some ⟨w1.heap.size, 0, none⟩)) true ty).run Tryd.prog wr = _ := fun ty => Lib.run_next_end_at wr w1.heap.size s pos ty HE.out.it hp
      have HA := Aside0.mk (HE.out.ends hp)
      clear hp
      go_wp2_with (go_at_call 46; refine (Tryd.Builder_String_any _ _ _ _ HE.out.bld HE.out.bel.size).mono ?_; rintro e w3 ⟨rfl, hB3⟩; have HX := Aside0.mk (HE.out.bel.trans hB3); clear hB3)
      first | (rw [Exit.noGoto_ret]; go_ret) | go_ret
      exact ⟨by rw [HA.out]; rfl, HX.out⟩
end Go.Proofs.YtkbaihcamimnjaaDoor.Q
namespace Go.Proofs.YtkbaihcamimnjaaDoor.Q
open Go.RowKit Go.Lib Go.Proofs.YtkbaihcamimnjaaDoorW.PrintWords Go.Proofs.YtkbaihcamimnjaaDoorW.PrintLast Go.Proofs.YtkbaihcamimnjaaDoorW.PrintMore
attribute [local go_sem] max2_int min2_int max_two min_two max_three min_three max_four min_four
def escF (s : ByteArray) (k : Int) : ByteArray :=
  if s.size = 0 then s else if k = 0 then s
  else if k = 1 then (if legB true s = true then s else ⟨(escFrom 1 s 0).toArray⟩)
  else if k = 2 then ⟨(escFrom 2 s 0).toArray⟩
  else (if legB true s = true then s else ⟨([85, 95, 95] ++ escFrom 3 s 0).toArray⟩)
def impl_Escape.f (s : ByteArray) (k : Int) : Option ByteArray := if s.size ≤ 1000000 ∧ (k = 0 ∨ k = 1 ∨ k = 2 ∨ k = 3) then some (escF s k) else none
set_option maxRecDepth 100000 in
set_option maxHeartbeats 1600000 in
theorem escN_calls (s : ByteArray) (k : Int) (w : World) (h : s.size = 0 ∨ k = 0 ∨ ((k = 1 ∨ k = 3) ∧ legB true s = true)) :
    Calls Tryd.prog 28 #[.string s, .int .i64 k] w fun e w' => e = .returned (.string s) ∧ Below w.heap.size w w' := by
  by_cases h0 : s.size = 0
  · have h1 : (((s.size : Nat) : Int) == 0) = true := beq_iff_eq.2 (by omega)
    go_enter Tryd.func28, Tryd.ntmps28
    go_wp2
    go_ret
    exact ⟨rfl, Below.refl _ _⟩
  have h1 : (((s.size : Nat) : Int) == 0) = false := beq_eq_false_iff_ne.2 (by omega)
  have HB := Aside0.mk (below_alloc (Below.refl w.heap.size w) (.cells #[.pointer none, .slice none 0 0] 73))
  rcases h with h | rfl | ⟨rfl | rfl, hl⟩
  · exact absurd h h0
  · clear h0
    go_enter Tryd.func28, Tryd.ntmps28
    go_wp2
    first | (rw [Exit.noGoto_ret]; go_ret) | go_ret
    exact ⟨rfl, HB.out⟩
  all_goals
    have HL := Aside0.mk hl
    clear h0 hl
    go_enter Tryd.func28, Tryd.ntmps28
    go_wp2_with (go_at_call 30; refine (IsValidLegacyMetricName_calls s _).mono ?_; rintro e w1 ⟨rfl, hB1⟩; rw [HL.out]; have HB1 := Aside0.mk (HB.out.trans (hB1.mono HB.out.size)); clear hB1)
    first | (rw [Exit.noGoto_ret]; go_ret) | go_ret
    exact ⟨rfl, HB1.out⟩
theorem escape_calls (s : ByteArray) (k : Int) (w : World) (tb : TBz w) (hs : s.size ≤ 1000000) (hk : k = 0 ∨ k = 1 ∨ k = 2 ∨ k = 3) :
    Calls Tryd.prog 28 #[.string s, .int .i64 k] w fun e w' => e = .returned (.string (escF s k)) ∧ Below w.heap.size w w' := by
  unfold escF
  by_cases h0 : s.size = 0
  · rw [if_pos h0]; exact escN_calls s k w (.inl h0)
  rw [if_neg h0]
  rcases hk with rfl | rfl | rfl | rfl
  · rw [if_pos rfl]; exact escN_calls s 0 w (.inr (.inl rfl))
  · rw [if_neg (by decide), if_pos rfl]
    cases hl : legB true s
    · rw [if_neg (by simp)]; exact esc1_calls s (by omega) hs hl w
    · rw [if_pos rfl]; exact escN_calls s 1 w (.inr (.inr ⟨.inl rfl, hl⟩))
  · rw [if_neg (by decide), if_neg (by decide), if_pos rfl]; exact esc2_calls s (by omega) hs w
  · rw [if_neg (by decide), if_neg (by decide), if_neg (by decide)]
    cases hl : legB true s
    · rw [if_neg (by simp)]; exact esc3_calls s (by omega) hs hl w tb
    · rw [if_pos rfl]; exact escN_calls s 3 w (.inr (.inr ⟨.inr rfl, hl⟩))
set_option maxHeartbeats 800000 in
theorem impl_Escape.calls (a0 : ByteArray) (a1 : Int) (r : ByteArray) (w : World) (tb : TBz w) (h : impl_Escape.f a0 a1 = some r) :
    Calls Tryd.prog 14 #[.string a0, .int .i64 a1] w fun e w' => e = .returned (.string r) ∧ Below w.heap.size w w' := by
  unfold impl_Escape.f at h
  split at h
  case isFalse => cases h
  case isTrue hi =>
  obtain rfl := Option.some.inj h
  have HI := Aside0.mk hi
  have HT := Aside0.mk tb
  clear hi h tb
  go_enter Tryd.func14, Tryd.ntmps14
  go_wp2_with fail
  refine (escape_calls a0 a1 _ HT.out HI.out.1 HI.out.2).mono ?_
  rintro e w1 ⟨rfl, hb⟩
  have HB := Aside0.mk hb
  clear hb
  go_wp2
  go_ret
  exact ⟨rfl, HB.out⟩
end Go.Proofs.YtkbaihcamimnjaaDoor.Q
