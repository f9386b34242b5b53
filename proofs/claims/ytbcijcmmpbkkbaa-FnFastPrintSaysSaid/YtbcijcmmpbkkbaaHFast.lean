/- The fast fingerprint of a set of labels: what impl.SetFastPrint returns. No condition beyond the lengths named. -/
import Derived.Test.YtbcijcmmpbkkbaaHSets
import Derived.Test.YtbcijcmmpbkkbaaHFnv
namespace Go.Proofs.Ytbcijcmmpbkkbaa.Q
open Go.RowKit Go.Proofs.YtbcijcmmpbkkbaaW.PrintWords Go.Proofs.YtbcijcmmpbkkbaaW.PrintLast Go.Proofs.YtbcijcmmpbkkbaaW.PrintMore
open Go.Maps (Keyed string_keyed)
open Go.Proofs (encStr)
attribute [local go_sem] max2_int min2_int max_two min_two max_three min_three max_four min_four
def ofL (l : List UInt8) : ByteArray := ⟨l.toArray⟩
def fastH (D : DataW Unit) (k : List UInt8) : Int := fnvS (fnvB (fnvS 14695981039346656037 (ofL k)) 255) (valD D (ofL k))
def fastX (D : DataW Unit) (ks : List (List UInt8)) : Int := ks.foldl (fun r k => Go.bits .xor .u64 r (fastH D k)) 0
def fastV (D : DataW Unit) (ks : List (List UInt8)) : Int := if Maps.size D = 0 then 14695981039346656037 else fastX D ks
theorem fastV_pos {D : DataW Unit} (h : ¬ Maps.size D = 0) (ks : List (List UInt8)) : fastV D ks = fastX D ks := if_neg h
theorem fastV_zero {D : DataW Unit} (h : Maps.size D = 0) (ks : List (List UInt8)) : fastV D ks = 14695981039346656037 := if_pos h
theorem val_of_entry {D : DataW Unit} {x : List UInt8} {c : ByteArray} (hat : ∀ zd, D.atKey (.string x) zd = .lit (.string c.data.toList)) : c = valD D (ofL x) := valD_of (hat _)
theorem hashAdd_calls (h : Int) (s : ByteArray) (w : World) (hs : s.size ≤ 9223372036854775807) : Calls Try.prog 70 #[.int .u64 h, .string s] w fun e w' => e = .returned (.int .u64 (fnvS h s)) ∧ Drawn0 w w' :=
  model_hashAdd.calls _ _ _ _ _ (hashAdd_is h s hs)
theorem keys_empty {w : World} {b n : Nat} {D : DataW Unit} (h : OwnsSet w b n D) (hz : Maps.size D = 0) : strKeys D = [] := by
  obtain ⟨es, rfl, _⟩ := World.ownsMap.entries h keyed67
  cases es with
  | nil => rfl
  | cons a l => simp [Maps.size_eq] at hz
set_option maxRecDepth 100000 in
set_option maxHeartbeats 800000 in
theorem fastprint_calls (b n : Nat) (D : DataW Unit) (w : World) (hown : OwnsSet w b n D) :
    Calls Try.prog 67 #[.map (some b)] w fun e w' => ∃ ks : List (List UInt8), e = .returned (.int .u64 (fastV D ks)) ∧ ks.Perm (strKeys D) ∧ Below w.heap.size w w' := by
  have hbl := World.ownsMap.lt hown
  have hsl := World.ownsMap.size_le hown
  have HO := Aside0.mk hown
  have HBL := Aside0.mk hbl
  clear hown hbl
  have HB := Aside0.mk (Below.refl w.heap.size w)
  by_cases hz : Maps.size D = 0
  · have hz1 : (((Maps.size D : Nat) : Int) == 0) = true := beq_iff_eq.2 (by omega)
    have hz2 : (Maps.size D == 0) = true := beq_iff_eq.2 hz
    have HZ := Aside0.mk hz
    clear hz
    go_enter Try.func67, Try.ntmps67
    go_wp2_with (at_len; refine wpList_len_own _ rfl _ 93 rfl 67 68 Try.underlying93 _ b n _ rfl HO.out ?_)
    go_ret
    exact ⟨[], by rw [fastV_zero HZ.out]; rfl, by rw [keys_empty HO.out HZ.out], HB.out⟩
  · have hz1 : (((Maps.size D : Nat) : Int) == 0) = false := beq_eq_false_iff_ne.2 (by omega)
    have hz2 : (Maps.size D == 0) = false := beq_eq_false_iff_ne.2 hz
    have HZ := Aside0.mk hz
    clear hz
    go_enter Try.func67, Try.ntmps67
    go_wp2_with (first | (at_len; refine wpList_len_own _ rfl _ 93 rfl 67 68 Try.underlying93 _ b n _ rfl HO.out ?_) | (at_range; refine wpList_range_own _ rfl _ 93 rfl 67 68 keyed67 Try.underlying93 _ b n _ rfl HO.out ?_; intro w0 hrg0 hg0 hs0; have HRG := Aside0.mk hrg0; have HG0 := Aside0.mk hg0; clear hrg0 hg0 hs0))
    go_frame
    go_loopw [3] (fun v3 wr => ∃ (left : Lit → Bool) (cnt : Nat) (ss : List (List UInt8)), v3 = .int .u64 (fastX D ss) ∧ Aside0 (wr.ranges Try.prog 67 (plainElem Try.prog 68) b w.heap.size n D left cnt) ∧ Aside0 (Collected D left ss) ∧ Aside0 (Below w.heap.size w wr)) (fun _ wr => wr.rangeLeft b w.heap.size)
    case atStart => exact ⟨_, _, [], rfl, HRG, ⟨Collected.start D⟩, ⟨HB.out.grown HG0.out (Nat.le_refl _) (fun j hj => by cases hj)⟩⟩
    case round =>
      obtain ⟨left, cnt, ss, rfl, HR, HC, HB⟩ := hrel
      go_wp2_with (at_next; refine wpList_next_ranges _ rfl _ rfl 67 keyed67 (plainElem Try.prog 68) encStr Value.string (fun key kl hk => by obtain ⟨x, hx, _⟩ := Maps.keyOf_str Try.underlying67 hk; exact ⟨x, hx⟩) (fun v y hv => by obtain ⟨c, rfl, _⟩ := plainElem_string_inv Try.underlying68 hv; exact ⟨c, rfl⟩) b w.heap.size n _ _ _ rfl HR.out ?_ ?_)
      · intro hc0 hl0
        have HL := Aside0.mk hl0
        clear hc0 hl0
        go_wp2
        go_ret
        exact ⟨ss, by rw [fastV_pos HZ.out]; rfl, HC.out.perm HO.out keyed67 Try.underlying67 HL.out, HB.out⟩
      · intro x c kl yd yp w2 cnt2 hkey hlk hv hat hrg2 hlt hg2 hs2 hen
        obtain ⟨x', ex, rfl, hxl⟩ := Maps.keyOf_str Try.underlying67 hkey
        obtain rfl : x = x' := encStr_inj ex
        obtain ⟨c', ec, ey, hcl⟩ := plainElem_string_inv Try.underlying68 hv
        injection ec with ec
        subst ec
        injection ey with ey1 ey2
        subst ey1 ey2
        have HV := Aside0.mk (val_of_entry hat)
        have HC2 := Aside0.mk (HC.out.step hlk hat)
        have HR2 := Aside0.mk hrg2
        have HB2 := Aside0.mk (HB.out.grown hg2 HB.out.size (fun j hj => by cases hj; exact Nat.le_refl _))
        have HLT := Aside0.mk hlt
        have HS1 : Aside0 ((ofL x).size ≤ 9223372036854775807) := ⟨by simp [ofL, ByteArray.size]; unfold maxLen at hxl; omega⟩
        have HS2 : Aside0 (c.size ≤ 9223372036854775807) := ⟨by unfold maxLen at hcl; omega⟩
        clear hkey hlk hv hat hrg2 hlt hg2 hs2 ex hxl hcl
        have HX : Aside0 (Drawn0 w2 w2) := ⟨Drawn0.refl _⟩
        go_wp2_with (first | (go_at_call 69; refine (model_hashNew.calls 14695981039346656037 _ rfl).mono ?_; rintro e w3 ⟨rfl, hd⟩; have HY := Aside0.mk (drawn_trans HX.out hd); clear HX hd; have HX := HY; clear HY) | (go_at_call 71; refine (model_hashAddByte.calls _ _ _ _ (hashAddByte_is _ _)).mono ?_; rintro e w5 ⟨rfl, hd⟩; have HY := Aside0.mk (drawn_trans HX.out hd); clear HX hd; have HX := HY; clear HY) | (go_at_call 70; refine (hashAdd_calls _ _ _ (by first | exact HS1.out | exact HS2.out)).mono ?_; rintro e w4 ⟨rfl, hd⟩; have HY := Aside0.mk (drawn_trans HX.out hd); clear HX hd; have HX := HY; clear HY))
        have HR3 := Aside0.mk (World.ranges.kept HR2.out (drawn_grown HX.out none) (by simp) (by simp))
        go_roundw
        case rel => exact ⟨_, cnt2, ss ++ [x], by rw [HV.out]; simp [fastX, fastH, ofL], HR3, HC2, ⟨HB2.out.trans (HX.out.below.mono HB2.out.size)⟩⟩
        case measure => rw [HR3.out.left_eq, HR.out.left_eq]; exact HLT.out
theorem fnvB_range (h b : Int) : 0 ≤ fnvB h b ∧ fnvB h b < 18446744073709551616 := by
  have := wrap_within .u64 ((Go.bits .xor .u64 h (IntKind.u64.wrap b)) * 1099511628211)
  have e1 : IntKind.u64.min = 0 := by decide
  have e2 : IntKind.u64.max = 18446744073709551615 := by decide
  rw [e1, e2] at this
  unfold fnvB
  omega
theorem fnvL_range (l : List UInt8) : ∀ h : Int, 0 ≤ h ∧ h < 18446744073709551616 → 0 ≤ fnvL h l ∧ fnvL h l < 18446744073709551616 := by
  induction l with
  | nil => exact fun h hh => hh
  | cons a l ih => exact fun h _ => ih _ (fnvB_range _ _)
theorem fastH_range (D : DataW Unit) (k : List UInt8) : 0 ≤ fastH D k ∧ fastH D k < 18446744073709551616 := fnvL_range _ _ (fnvB_range _ _)
theorem xor_nat (a b : Nat) (ha : a < 18446744073709551616) (hb : b < 18446744073709551616) : ∃ c : Nat, c < 18446744073709551616 ∧ Go.bits .xor .u64 (a : Int) (b : Int) = (c : Int) ∧ c = a ^^^ b :=
  ⟨a ^^^ b, Nat.xor_lt_two_pow (n := 64) ha hb, bits_xor_u64_nat a b ha hb, rfl⟩
theorem xor_swap (r a b : Int) (hr : 0 ≤ r ∧ r < 18446744073709551616) (ha : 0 ≤ a ∧ a < 18446744073709551616) (hb : 0 ≤ b ∧ b < 18446744073709551616) :
    Go.bits .xor .u64 (Go.bits .xor .u64 r a) b = Go.bits .xor .u64 (Go.bits .xor .u64 r b) a := by
  obtain ⟨r, rfl⟩ := Int.eq_ofNat_of_zero_le hr.1
  obtain ⟨a, rfl⟩ := Int.eq_ofNat_of_zero_le ha.1
  obtain ⟨b, rfl⟩ := Int.eq_ofNat_of_zero_le hb.1
  obtain ⟨c, hc, e1, f1⟩ := xor_nat r a (by omega) (by omega)
  obtain ⟨d, hd, e2, f2⟩ := xor_nat r b (by omega) (by omega)
  rw [e1, e2]
  obtain ⟨_, _, e3, f3⟩ := xor_nat c b hc (by omega)
  obtain ⟨_, _, e4, f4⟩ := xor_nat d a hd (by omega)
  rw [e3, e4, f3, f4, f1, f2, Nat.xor_assoc, Nat.xor_assoc, Nat.xor_comm a b]
theorem xor_range (r a : Int) : 0 ≤ Go.bits .xor .u64 r a ∧ Go.bits .xor .u64 r a < 18446744073709551616 := by
  have := bits_within .xor .u64 r a
  have e1 : IntKind.u64.min = 0 := by decide
  have e2 : IntKind.u64.max = 18446744073709551615 := by decide
  rw [e1, e2] at this
  omega
theorem fold_perm (f : List UInt8 → Int) (hf : ∀ k, 0 ≤ f k ∧ f k < 18446744073709551616) {l l' : List (List UInt8)} (h : l.Perm l') :
    ∀ r : Int, 0 ≤ r ∧ r < 18446744073709551616 → l.foldl (fun r k => Go.bits .xor .u64 r (f k)) r = l'.foldl (fun r k => Go.bits .xor .u64 r (f k)) r := by
  induction h with
  | nil => exact fun r _ => rfl
  | cons x _ ih => exact fun r _ => ih _ (xor_range _ _)
  | swap x y l =>
    intro r hr
    show List.foldl _ (Go.bits .xor .u64 (Go.bits .xor .u64 r (f y)) (f x)) l = List.foldl _ (Go.bits .xor .u64 (Go.bits .xor .u64 r (f x)) (f y)) l
    rw [xor_swap r (f y) (f x) hr (hf y) (hf x)]
  | trans _ _ ih1 ih2 => exact fun r hr => (ih1 r hr).trans (ih2 r hr)
theorem fastV_perm (D : DataW Unit) {l l' : List (List UInt8)} (h : l.Perm l') : fastV D l = fastV D l' := by
  unfold fastV fastX
  rw [fold_perm (fastH D) (fastH_range D) h 0 (by omega)]
def impl_SetFastPrint.f (l0 : List (S26)) : Option (Int) :=
  if l0.length ≤ 10000000000 ∧ shortPairs l0 then some (fastV (mset l0) (strKeys (mset l0))) else none
set_option maxHeartbeats 400000 in
theorem impl_SetFastPrint.calls (A0 : Option Addr) (c0 : Nat) (l0 : List (S26)) (r : Int) (w : World) (hr0 : Kd.C k26 w A0 l0.length l0) (hc0 : l0.length ≤ c0) (h : impl_SetFastPrint.f l0 = some r) :
    Calls Try.prog 32 #[.slice A0 l0.length c0] w fun e w' => e = .returned (.int .u64 r) ∧ Below w.heap.size w w' := by
  unfold impl_SetFastPrint.f at h
  split at h
  case isFalse => cases h
  rename_i hh
  obtain ⟨hlen, hs⟩ := hh
  obtain rfl := Option.some.inj h
  clear h
  go_enter Try.func32, Try.ntmps32
  go_wp2_with fail
  refine (labelSet_calls _ _ _ _ hr0 hc0 hlen hs).mono ?_
  rintro e w1 ⟨b, rfl, hbb, ho, hb1⟩
  have HO := Aside0.mk ho
  have HB := Aside0.mk hb1
  clear ho hb1 hbb hr0
  go_wp2_with fail
  go_enter Try.func57, Try.ntmps57
  go_wp2_with fail
  refine (fastprint_calls _ _ _ _ HO.out).mono ?_
  rintro e w2 ⟨ks, rfl, hp, hb2⟩
  have HB2 := Aside0.mk (below_step HB.out hb2)
  have HP := Aside0.mk (fastV_perm (mset l0) hp)
  clear hp hb2
  go_wp2
  go_ret
  exact ⟨by rw [← HP.out]; rfl, HB2.out⟩
end Go.Proofs.Ytbcijcmmpbkkbaa.Q
