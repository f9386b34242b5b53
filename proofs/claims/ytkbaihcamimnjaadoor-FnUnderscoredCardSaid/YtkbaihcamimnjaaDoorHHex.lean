/- What strconv.FormatInt returns at base 16 for a number from 0 on: its hexadecimal digits. Condition: one cell of the table that math/bits.TrailingZeros64 reads. -/
import Derived.WalkLawsBesides
import Derived.Test.YtkbaihcamimnjaaDoorHBytes
import Derived.Lib.LaidU8
import Derived.Lib.AppendIntMem
import Derived.MakeChecks
set_option linter.unusedVariables false
set_option linter.unusedSimpArgs false
namespace Go.Proofs.YtkbaihcamimnjaaDoor.Q
open Go.RowKit Go.Lib Go.Proofs.YtkbaihcamimnjaaDoorW.PrintWords Go.Proofs.YtkbaihcamimnjaaDoorW.PrintLast Go.Proofs.YtkbaihcamimnjaaDoorW.PrintMore
attribute [local go_sem] max2_int min2_int max_two min_two max_three min_three max_four min_four
def TBz (w : World) : Prop := w.cell? ⟨6, 15, none⟩ = some (.int .u8 4)
theorem TBz.below {w w' : World} (h : TBz w) (hb : Below w.heap.size w w') : TBz w' := (hb.cell (World.block_lt_of_cell? _ _ h)).trans h
theorem tz64_16 (w : World) (tb : TBz w) : Calls Tryd.prog 80 #[.int .u64 16] w fun e w' => e = .returned (.int .i64 4) ∧ w' = w := by
  have h := tb
  unfold TBz at h
  have e1 : bits BinOp.and IntKind.u64 16 (IntKind.u64.wrap (-16)) = 16 := by kernel_rfl
  have e2 : IntKind.u64.wrap (16 * 285870213051353865) / 288230376151711744 = 15 := by kernel_rfl
  go_enter Tryd.func80, Tryd.ntmps80
  go_wp2
  go_ret
  exact ⟨rfl, rfl⟩
theorem tz_16 (w : World) (tb : TBz w) : Calls Tryd.prog 77 #[.int .u64 16] w fun e w' => e = .returned (.int .i64 4) ∧ w' = w := by
  go_enter Tryd.func77, Tryd.ntmps77
  go_wp2_with (go_at_call 80; refine (tz64_16 _ tb).mono ?_; rintro e w' ⟨rfl, rfl⟩)
  go_ret
  exact ⟨rfl, rfl⟩
/-- One hexadecimal digit. -/
def hexc (d : Nat) : UInt8 := UInt8.ofNat (if d < 10 then 48 + d else 87 + d)
/-- A number's hexadecimal digits. -/
def hexD (n : Nat) : List UInt8 := if h : n < 16 then [hexc n] else hexD (n / 16) ++ [hexc (n % 16)]
decreasing_by omega
def digsA : ByteArray := ⟨#[48, 49, 50, 51, 52, 53, 54, 55, 56, 57, 97, 98, 99, 100, 101, 102, 103, 104, 105, 106, 107, 108, 109, 110, 111, 112, 113, 114, 115, 116, 117, 118, 119, 120, 121, 122]⟩
theorem digs_at : ∀ (d : Nat) (_ : d < 16) (w : World), Sem.run Tryd.prog (Instr.index 9 (.string ⟨#[48, 49, 50, 51, 52, 53, 54, 55, 56, 57, 97, 98, 99, 100, 101, 102, 103, 104, 105, 106, 107, 108, 109, 110, 111, 112, 113, 114, 115, 116, 117, 118, 119, 120, 121, 122]⟩) (.int .u64 (d : Int))) w = .ok (.int .u8 ((hexc d).toNat : Int)) w
  | 0, _, w => by kernel_rfl
  | 1, _, w => by kernel_rfl
  | 2, _, w => by kernel_rfl
  | 3, _, w => by kernel_rfl
  | 4, _, w => by kernel_rfl
  | 5, _, w => by kernel_rfl
  | 6, _, w => by kernel_rfl
  | 7, _, w => by kernel_rfl
  | 8, _, w => by kernel_rfl
  | 9, _, w => by kernel_rfl
  | 10, _, w => by kernel_rfl
  | 11, _, w => by kernel_rfl
  | 12, _, w => by kernel_rfl
  | 13, _, w => by kernel_rfl
  | 14, _, w => by kernel_rfl
  | 15, _, w => by kernel_rfl
  | n + 16, h, _ => absurd h (by omega)
/-- The array of 65 bytes whose last ones are those of a list. -/
def arr65 (t : List UInt8) : Array Value := (List.replicate (65 - t.length) (Value.int .u8 0) ++ t.map fun b => Value.int .u8 (b.toNat : Int)).toArray
theorem arr65_set (t : List UInt8) (c : UInt8) (h : t.length < 65) : (arr65 t).set! (64 - t.length) (.int .u8 (c.toNat : Int)) = arr65 (c :: t) := by
  unfold arr65
  obtain ⟨m, hm⟩ : ∃ m, 65 - t.length = m + 1 := ⟨64 - t.length, by omega⟩
  have e : 64 - t.length = m := by omega
  rw [hm, e, show (c :: t).length = t.length + 1 from rfl, show 65 - (t.length + 1) = m by omega]
  apply Array.ext'
  simp only [Array.set!_eq_setIfInBounds, Array.toList_setIfInBounds, List.toList_toArray]
  rw [List.replicate_succ', List.append_assoc, List.set_append_right _ _ (by simp)]
  simp
theorem arr65_get (t : List UInt8) (j : Nat) (hl : t.length ≤ 65) (hj : j < t.length) : (arr65 t)[65 - t.length + j]? = some (.int .u8 (t[j].toNat : Int)) := by
  unfold arr65
  rw [List.getElem?_toArray, List.getElem?_append_right (by simp)]
  simp [hj]
theorem arr65_size (t : List UInt8) (hl : t.length ≤ 65) : (arr65 t).size = 65 := by unfold arr65; simp; omega
theorem arr65_low (t : List UInt8) (h : t.length < 65) : (arr65 t)[64 - t.length]? = some (.int .u8 0) := by
  unfold arr65
  rw [List.getElem?_toArray, List.getElem?_append_left (by rw [List.length_replicate]; omega)]
  rw [List.getElem?_replicate, if_pos (by omega)]
/-- What stands in the block. -/
def Arr65 (w : World) (b : Nat) (t : List UInt8) : Prop := w.heap[b]? = some (.cells (arr65 t) 112 (0, 0))
theorem Arr65.set {w : World} {b : Nat} {t : List UInt8} (h : Arr65 w b t) (c : UInt8) (hl : t.length < 65) : Arr65 (w.setCell ⟨b, 64 - t.length, none⟩ (.int .u8 (c.toNat : Int))) b (c :: t) := by
  unfold Arr65 at *
  rw [← arr65_set t c hl]
  simp [World.setCell, Array.getElem?_modify, h, Array.set!_eq_setIfInBounds]
theorem and15 (v : Nat) (hv : v < 18446744073709551616) : bits BinOp.and IntKind.u64 (v : Int) 15 = ((v % 16 : Nat) : Int) := by
  have h1 : (BitVec.ofInt 64 (v : Int)).toNat = v := by
    rw [BitVec.ofInt_natCast, BitVec.toNat_ofNat]; exact Nat.mod_eq_of_lt (by omega)
  show IntKind.u64.wrap ((BitVec.ofInt 64 (v : Int) &&& BitVec.ofInt 64 15).toNat : Int) = _
  rw [BitVec.toNat_and, h1]
  have h2 : (BitVec.ofInt 64 15).toNat = 2 ^ 4 - 1 := by decide
  rw [h2, Nat.and_two_pow_sub_one_eq_mod]
  simp [IntKind.wrap, IntKind.bits, IntKind.signed]
  omega
theorem digs_get : ∀ (d : Nat) (_ : d < 16), (⟨#[48, 49, 50, 51, 52, 53, 54, 55, 56, 57, 97, 98, 99, 100, 101, 102, 103, 104, 105, 106, 107, 108, 109, 110, 111, 112, 113, 114, 115, 116, 117, 118, 119, 120, 121, 122]⟩ : ByteArray)[d]'(by show d < 36; omega) = hexc d
  | 0, _ => by kernel_rfl
  | 1, _ => by kernel_rfl
  | 2, _ => by kernel_rfl
  | 3, _ => by kernel_rfl
  | 4, _ => by kernel_rfl
  | 5, _ => by kernel_rfl
  | 6, _ => by kernel_rfl
  | 7, _ => by kernel_rfl
  | 8, _ => by kernel_rfl
  | 9, _ => by kernel_rfl
  | 10, _ => by kernel_rfl
  | 11, _ => by kernel_rfl
  | 12, _ => by kernel_rfl
  | 13, _ => by kernel_rfl
  | 14, _ => by kernel_rfl
  | 15, _ => by kernel_rfl
  | n + 16, h => absurd h (by omega)
/-- The state of the loop over the digits: what is left, the place, the digits laid. -/
def HexAt (n v : Nat) (i : Int) (t : List UInt8) : Prop := hexD n = hexD v ++ t ∧ v * 16 ^ t.length ≤ n ∧ i + t.length = 65 ∧ t.length ≤ 15
theorem HexAt.low {n v : Nat} {i : Int} {t : List UInt8} (h : HexAt n v i t) (hn : n < 18446744073709551616) : 50 ≤ i ∧ i ≤ 65 ∧ v < 18446744073709551616 := by
  obtain ⟨_, h1, h2, h3⟩ := h
  refine ⟨by omega, by omega, ?_⟩
  have : v ≤ v * 16 ^ t.length := Nat.le_mul_of_pos_right _ (Nat.pos_of_ne_zero (by simp))
  omega
theorem HexAt.step {n v : Nat} {i : Int} {t : List UInt8} (h : HexAt n v i t) (hn : n < 18446744073709551616) (hv : 16 ≤ v) : HexAt n (v / 16) (i - 1) (hexc (v % 16) :: t) := by
  obtain ⟨h0, h1, h2, h3⟩ := h
  have e : v / 16 * 16 ^ (t.length + 1) ≤ v * 16 ^ t.length := by
    rw [Nat.pow_succ, Nat.mul_comm (16 ^ t.length) 16, ← Nat.mul_assoc]
    exact Nat.mul_le_mul_right _ (Nat.div_mul_le_self v 16)
  refine ⟨?_, ?_, by simp; omega, ?_⟩
  · rw [h0, hexD, dif_neg (by omega), List.append_assoc]
    rfl
  · exact Nat.le_trans e h1
  · rcases Nat.lt_or_ge t.length 15 with hlt | hge
    · show t.length + 1 ≤ 15
      omega
    · exfalso
      have h15 : t.length = 15 := by omega
      rw [h15] at h1
      have : (16:Nat) ^ 15 = 1152921504606846976 := by decide
      omega
theorem HexAt.ends {n v : Nat} {i : Int} {t : List UInt8} (h : HexAt n v i t) (hv : v < 16) : hexD n = hexc v :: t := by
  obtain ⟨h0, _⟩ := h
  rw [h0, hexD, dif_pos hv]
  rfl
theorem Arr65.read {w : World} {b : Nat} {t : List UInt8} (h : Arr65 w b t) (hl : t.length < 65) : w.cell? ⟨b, 64 - t.length, none⟩ = some (.int .u8 0) ∧ w.frozen? ⟨b, 64 - t.length, none⟩ = false := by
  unfold Arr65 at h
  refine ⟨?_, by simp [World.frozen?, h]⟩
  rw [Lib.cell_of_heap h]
  exact arr65_low t hl
theorem Arr65.bytes {w : World} {b : Nat} {t : List UInt8} (h : Arr65 w b t) (hl : t.length ≤ 65) : ∀ j (hj : j < t.length), w.cell? ((⟨b, 65 - t.length, none⟩ : Addr).add j) = some (.int .u8 (t[j].toNat : Int)) := by
  intro j hj
  unfold Arr65 at h
  have e : (⟨b, 65 - t.length, none⟩ : Addr).add j = ⟨b, 65 - t.length + j, none⟩ := by unfold Addr.add; split <;> simp_all
  rw [e, Lib.cell_of_heap h]
  exact arr65_get t j hl hj
theorem slice65 (w : World) (b : Nat) (z : Int) (h0 : 0 ≤ z) (h1 : z ≤ 64) : (Instr.sliceAt 112 (.pointer (some ⟨b, 0, none⟩)) (some (.int .i64 z)) none none).run Tryd.prog w = .ok (.slice (some ⟨b, z.toNat, none⟩) (65 - z.toNat) (65 - z.toNat)) w := by
  have hl : Tryd.prog.arrayLen 112 = 65 := by kernel_rfl
  have hsz : ∀ w, (sizeOf (Tryd.prog.elem 112)).run Tryd.prog w = .ok 1 w := fun w => by kernel_rfl
  have hu : Tryd.prog.underlying 112 = some (.array (Tryd.prog.arrayLen 112) (Tryd.prog.elem 112)) := by kernel_rfl
  rw [run_sliceAt_array_l w 112 ⟨b, 0, none⟩ hu .i64 z h0 (by rw [hl]; omega), hsz]
  show Result.ok (slicedAt ⟨b, 0, none⟩ z.toNat (Tryd.prog.arrayLen 112) (Tryd.prog.arrayLen 112) 1) w = _
  rw [hl]
  unfold slicedAt
  rw [if_neg (by omega)]
  have e : (⟨b, 0, none⟩ : Addr).add (z.toNat * 1) = ⟨b, z.toNat, none⟩ := by unfold Addr.add; split <;> simp_all
  rw [e]
set_option maxRecDepth 100000 in
set_option maxHeartbeats 1600000 in
theorem formatBits16 (n : Nat) (hn : n < 18446744073709551616) (w : World) (tb : TBz w) :
    Calls Tryd.prog 68 #[.slice none 0 0, .int .u64 n, .int .i64 16, .bool false, .bool false] w fun e w' => e = .returned (.tuple #[.slice none 0 0, .string ⟨(hexD n).toArray⟩]) ∧ Below w.heap.size w w' := by
  have e0 : bits BinOp.and IntKind.i64 16 15 = 0 := by kernel_rfl
  have HT := Aside0.mk tb
  have HN := Aside0.mk hn
  clear tb
  go_enter Tryd.func68, Tryd.ntmps68
  go_wp2_with (first | (go_at_call 77; refine (tz_16 _ (TBz.below HT.out (below_alloc (Below.refl _ _) _))).mono ?_; rintro e w' ⟨rfl, rfl⟩) | go_in)
  go_loopw [1, 13] (fun u i wr => ∃ (v : Nat) (z : Int) (t : List UInt8), u = .int .u64 v ∧ i = .int .i64 z ∧ Aside0 (HexAt n v z t) ∧ Aside0 (Arr65 wr w.heap.size t) ∧ Aside0 (Below w.heap.size w wr)) (fun u _ _ => (RowKit.intOf u).toNat)
  case atStart => exact ⟨n, 65, [], rfl, rfl, ⟨by simp [HexAt]⟩, ⟨heap_alloc_new _ _⟩, ⟨below_alloc (Below.refl _ _) _⟩⟩
  case round =>
    obtain ⟨v, z, t, rfl, rfl, HX, HA, HB⟩ := hrel
    obtain ⟨z0, z1, hv⟩ := HX.out.low HN.out
    have hz2 : z.toNat - 1 = 64 - t.length := by have := HX.out.2.2.1; omega
    have htl : t.length < 65 := by have := HX.out.2.2.2; omega
    obtain ⟨hc0, hf0⟩ := HA.out.read htl
    rw [← hz2] at hc0 hf0
    have HZ := Aside0.mk hz2
    have HTL := Aside0.mk htl
    clear hz2 htl
    by_cases hlt : 16 ≤ v
    · have hb := and15 v hv
      have HL := Aside0.mk hlt
      go_wp2
      go_roundw
      case rel => exact ⟨v / 16, z - 1, (⟨#[48, 49, 50, 51, 52, 53, 54, 55, 56, 57, 97, 98, 99, 100, 101, 102, 103, 104, 105, 106, 107, 108, 109, 110, 111, 112, 113, 114, 115, 116, 117, 118, 119, 120, 121, 122]⟩ : ByteArray)[v % 16]'(by show v % 16 < 36; omega) :: t, by simp, rfl, ⟨by rw [digs_get (v % 16) (Nat.mod_lt _ (by omega))]; exact HX.out.step HN.out HL.out⟩, ⟨by rw [HZ.out]; exact HA.out.set _ HTL.out⟩, ⟨HB.out.setCell (Nat.le_refl _) _⟩⟩
      case measure => simp [RowKit.intOf]; omega
    · have hD : (⟨#[48, 49, 50, 51, 52, 53, 54, 55, 56, 57, 97, 98, 99, 100, 101, 102, 103, 104, 105, 106, 107, 108, 109, 110, 111, 112, 113, 114, 115, 116, 117, 118, 119, 120, 121, 122]⟩ : ByteArray)[v]'(by show v < 36; omega) = hexc v := digs_get v (by omega)
      have hE : hexD n = hexc v :: t := HX.out.ends (by omega)
      have hA2 := HA.out.set (hexc v) HTL.out
      have hl2 : (hexc v :: t).length ≤ 65 := HTL.out
      have hby := hA2.bytes hl2
      have hoff : 65 - (hexc v :: t).length = 64 - t.length := by show 65 - (t.length + 1) = _; omega
      have hB2 := Aside0.mk (HB.out.setCell (p := ⟨w.heap.size, z.toNat - 1, none⟩) (Nat.le_refl _) (.int .u8 ((hexc v).toNat : Int)))
      rw [hoff, ← HZ.out] at hby
      have hcv := run_convert_bytes_back (P := Tryd.prog) _ 31 9 5 _ (hexc v :: t).length (hexc v :: t) Tryd.underlying31 Tryd.underlying5 Tryd.underlying9 hby
      have hsl := slice65 (wr.setCell ⟨w.heap.size, 64 - t.length, none⟩ (.int .u8 ((hexc v).toNat : Int))) w.heap.size (z - 1) (by omega) (by omega)
      have hz3 : (z - 1).toNat = z.toNat - 1 := by omega
      have hz4 : 65 - (z.toNat - 1) = (hexc v :: t).length := by rw [HZ.out]; show _ = t.length + 1; have := HTL.out; omega
      rw [hz3, hz4] at hsl
      obtain ⟨m, hm⟩ : ∃ m, m = (hexc v :: t).length := ⟨_, rfl⟩
      rw [← hm] at hcv hsl
      rw [← hE] at hcv
      rw [← hD] at hcv
      rw [← hD, ← HZ.out] at hsl
      rw [← hD] at hB2
      clear hm hby hoff hz3 hz4 hA2 hl2 hD hE
      go_wp2
      go_ret2
      exact ⟨rfl, hB2.out⟩
set_option maxRecDepth 100000 in
set_option maxHeartbeats 1600000 in
theorem ifmtInt16 (n : Nat) (hn : n < 9223372036854775808) (w : World) (tb : TBz w) :
    Calls Tryd.prog 58 #[.int .i64 n, .int .i64 16] w fun e w' => e = .returned (.string ⟨(hexD n).toArray⟩) ∧ Below w.heap.size w w' := by
  have HT := Aside0.mk tb
  have hw : IntKind.u64.wrap (n : Int) = (n : Int) := by simp [IntKind.wrap, IntKind.bits, IntKind.signed]; omega
  have h0 : ¬ ((n : Int) < 0) := by omega
  have h1 : decide ((n : Int) < 0) = false := decide_eq_false h0
  clear tb
  go_enter Tryd.func58, Tryd.ntmps58
  go_wp2_with fail
  refine (formatBits16 n (by omega) _ HT.out).mono ?_
  rintro e w' ⟨rfl, hb⟩
  go_wp2
  go_ret
  exact ⟨rfl, hb⟩
theorem fmtInt16 (n : Nat) (hn : n < 9223372036854775808) (w : World) (tb : TBz w) :
    Calls Tryd.prog 49 #[.int .i64 n, .int .i64 16] w fun e w' => e = .returned (.string ⟨(hexD n).toArray⟩) ∧ Below w.heap.size w w' := by
  go_enter Tryd.func49, Tryd.ntmps49
  go_wp2_with fail
  refine (ifmtInt16 n hn _ tb).mono ?_
  rintro e w' ⟨rfl, hb⟩
  go_wp2
  go_ret
  exact ⟨rfl, hb⟩
end Go.Proofs.YtkbaihcamimnjaaDoor.Q
