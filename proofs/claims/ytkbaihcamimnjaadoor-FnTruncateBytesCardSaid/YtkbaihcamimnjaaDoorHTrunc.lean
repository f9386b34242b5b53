/- What impl.TruncateRunes and impl.TruncateBytes return, at every text of at most 1000000 bytes. No condition. -/
import Derived.WalkLawsBesides
import Derived.Laws.Cover4
import Derived.Laws.IdiomStrings
import Derived.Test.YtkbaihcamimnjaaDoorHDec
import Derived.Test.YtkbaihcamimnjaaDoorHSRep
set_option linter.unusedVariables false
set_option linter.unusedSimpArgs false
namespace Go.Proofs.YtkbaihcamimnjaaDoor.Q
open Go.RowKit Go.Lib Go.Proofs.YtkbaihcamimnjaaDoorW.PrintWords Go.Proofs.YtkbaihcamimnjaaDoorW.PrintLast Go.Proofs.YtkbaihcamimnjaaDoorW.PrintMore
attribute [local go_sem] max2_int min2_int max_two min_two max_three min_three max_four min_four
/-- The characters of a text from a place on. -/
def runesI (s : ByteArray) (pos : Nat) : List Nat := if h : pos < s.size then (Utf8.decode s pos).1 :: runesI s (pos + (Utf8.decode s pos).2) else []
termination_by s.size - pos
decreasing_by have := decode_wide s pos; omega
theorem runesI_go (s : ByteArray) (pos : Nat) (h : pos < s.size) : runesI s pos = (Utf8.decode s pos).1 :: runesI s (pos + (Utf8.decode s pos).2) := by rw [runesI, dif_pos h]
theorem runesI_end (s : ByteArray) (pos : Nat) (h : ¬ pos < s.size) : runesI s pos = [] := by rw [runesI, dif_neg h]
/-- The text of characters. -/
def encL (l : List Nat) : ByteArray := runesBytes (l.map fun c : Nat => (c : Int))
def runeV (c : Nat) : Value := .int .i32 (c : Int)
theorem runesFrom_is (s : ByteArray) (b : Nat) : ∀ (pos : Nat) (acc : Array Value), s.size - pos ≤ b → Conv.runesFrom s b pos acc = acc ++ ((runesI s pos).map runeV).toArray := by
  induction b with
  | zero =>
    intro pos acc h
    rw [Conv.runesFrom, runesI_end s pos (by omega)]
    simp
  | succ b ih =>
    intro pos acc h
    rw [Conv.runesFrom]
    by_cases hp : pos < s.size
    · have hw := decode_wide s pos
      rw [if_pos hp, runesI_go s pos hp]
      simp only
      rw [ih _ _ (by omega)]
      apply Array.ext'
      simp [runeV]
    · rw [if_neg hp, runesI_end s pos hp]
      simp
theorem runesI_len (s : ByteArray) (d : Nat) : ∀ pos, s.size - pos ≤ d → (runesI s pos).length ≤ d := by
  induction d with
  | zero => exact fun pos h => by rw [runesI_end s pos (by omega)]; exact Nat.le_refl _
  | succ d ih =>
    intro pos h
    by_cases hp : pos < s.size
    · have hw := decode_wide s pos
      rw [runesI_go s pos hp]
      have := ih (pos + (Utf8.decode s pos).2) (by omega)
      simp
      omega
    · rw [runesI_end s pos hp]; exact Nat.zero_le _
/-- What []rune(s) lays: the world behind it, the row, what its cells hold. -/
structure RunesAt (s : ByteArray) (w w1 : World) (b cap : Nat) : Prop where
  run : (convert 9 82 (.string s)).run Tryd.prog w = .ok (.slice (some ⟨b, 0, none⟩) (runesI s 0).length cap) w1
  le : (runesI s 0).length ≤ cap
  bel : Below w.heap.size w w1
  low : w.heap.size ≤ b
  back : ∀ k c, k ≤ (runesI s 0).length → (convert 82 9 (.slice (some ⟨b, 0, none⟩) k c)).run Tryd.prog w1 = .ok (.string (encL ((runesI s 0).take k))) w1
theorem runes_at (s : ByteArray) (hs : s.size ≤ 1000000) (w : World) : ∃ w1 b cap, RunesAt s w w1 b cap := by
  have hu1 := Tryd.underlying9
  have hu2 := Tryd.underlying82
  have hu3 := Tryd.underlying21
  have hf : Conv.runesFrom s s.size 0 #[] = ((runesI s 0).map runeV).toArray := by
    have := runesFrom_is s s.size 0 #[] (by omega)
    simpa using this
  have hl := runesI_len s s.size 0 (by omega)
  have h46 : (Conv.runesFrom s s.size 0 #[]).size ≤ 70368744177664 := by rw [hf]; simp; omega
  have h := run_runes_of_string (P := Tryd.prog) w 9 82 21 s hu1 hu2 hu3 h46
  rw [hf] at h
  simp only [List.size_toArray, List.length_map] at h
  refine ⟨_, _, _, h, grownCap_ge _ _ _ _, below_alloc (below_drew (Below.refl _ _)) _, Nat.le_refl _, fun k c hk => ?_⟩
  have e : (List.map (fun c : Nat => (c : Int)) (runesI s 0)).take k = List.map (fun c : Nat => (c : Int)) ((runesI s 0).take k) := by rw [List.map_take]
  unfold encL
  rw [← e]
  refine run_convert_runes _ _ _ 21 ⟨w.heap.size, 0, none⟩ k c (List.map (fun c : Nat => (c : Int)) (runesI s 0)) (by simpa using hk) hu2 hu3 hu1 (fun j hj => ?_)
  have hj' : j < (runesI s 0).length := by simpa using hj
  have ea : (⟨w.heap.size, 0, none⟩ : Addr).add j = ⟨w.heap.size, j, none⟩ := by unfold Addr.add; split <;> simp_all
  rw [ea]
  refine (World.cell?_alloc_mark w.drew _ _ _ j).trans ?_
  rw [Array.getElem?_append_left (by simpa using hj')]
  simp [runeV, hj', List.getD_eq_getElem?_getD]
def mark : ByteArray := ⟨#[226, 128, 166]⟩
/-- What is left of a text that is cut to a number of characters. -/
def cutR (s : ByteArray) (n : Nat) : ByteArray × Bool :=
  if (runesI s 0).length ≤ n then (s, false) else if n ≤ 3 then (encL ((runesI s 0).take n), true) else (encL ((runesI s 0).take (n - 1)) ++ mark, true)
def impl_TruncateRunes.f (a0 : ByteArray) (a1 : Int) : Option (ByteArray × Bool) := if a0.size ≤ 1000000 ∧ 0 ≤ a1 ∧ a1 ≤ 1048576 then some (cutR a0 a1.toNat) else none
theorem runesBytes_size (l : List Int) : ∀ (acc : ByteArray), (l.foldl (fun r n => r ++ Utf8.encode n) acc).size ≤ acc.size + 4 * l.length := by
  induction l with
  | nil => exact fun acc => by simp
  | cons a l ih =>
    intro acc
    have := ih (acc ++ Utf8.encode a)
    rw [ByteArray.size_append] at this
    have he : (Utf8.encode a).size ≤ 4 := by
      unfold Utf8.encode
      dsimp only
      (repeat' split) <;> simp [ByteArray.size]
    simp only [List.foldl_cons, List.length_cons]
    omega
theorem encL_size (l : List Nat) : (encL l).size ≤ 4 * l.length := by
  have := runesBytes_size (l.map fun c : Nat => (c : Int)) ByteArray.empty
  unfold encL runesBytes
  simpa using this
set_option maxRecDepth 100000 in
set_option maxHeartbeats 1000000 in
theorem truncR_calls (s : ByteArray) (n : Nat) (hs : s.size ≤ 1000000) (hn : n ≤ 1048576) (w : World) :
    Calls Tryd.prog 38 #[.string s, .int .i64 (n : Int)] w fun e w' => e = .returned (.tuple #[.string (cutR s n).1, .bool (cutR s n).2]) ∧ Below w.heap.size w w' := by
  obtain ⟨w1, b, cap, H⟩ := runes_at s hs w
  have HR := Aside0.mk H
  have hcv := H.run
  have hback := H.back
  have hcap := H.le
  have hlen := runesI_len s s.size 0 (by omega)
  clear H
  have hE : ∀ k, (encL ((runesI s 0).take k)).size ≤ 4000000 := fun k => by have := encL_size ((runesI s 0).take k); rw [List.length_take] at this; omega
  generalize hL : (runesI s 0).length = len at *
  by_cases h1 : len ≤ n
  · have HO : Aside0 (cutR s n = (s, false)) := ⟨by unfold cutR; rw [hL, if_pos h1]⟩
    rw [HO.out]
    clear hback hE hL
    go_enter Tryd.func38, Tryd.ntmps38
    go_wp2
    go_ret2
    exact ⟨rfl, HR.out.bel⟩
  · by_cases h3 : n ≤ 3
    · have HO : Aside0 (cutR s n = (encL ((runesI s 0).take n), true)) := ⟨by unfold cutR; rw [hL, if_neg h1, if_pos h3]⟩
      rw [HO.out]
      have hb := hback n cap (by omega)
      clear hback hE hL
      go_enter Tryd.func38, Tryd.ntmps38
      go_wp2
      go_ret2
      exact ⟨rfl, HR.out.bel⟩
    · have HO : Aside0 (cutR s n = (encL ((runesI s 0).take (n - 1)) ++ mark, true)) := ⟨by unfold cutR; rw [hL, if_neg h1, if_neg h3]⟩
      rw [HO.out]
      have hb := hback (n - 1) cap (by omega)
      have hz := hE (n - 1)
      generalize encL ((runesI s 0).take (n - 1)) = t at *
      have z1 : (9223372036854775807 < t.size + 3) = False := eq_false (by omega)
      clear hback hE hL
      unfold mark
      go_enter Tryd.func38, Tryd.ntmps38
      go_wp2
      go_ret2
      exact ⟨rfl, HR.out.bel⟩
/-- The most characters, of k at most, that have no more than t bytes. -/
def fitK (r : List Nat) (t : Nat) : Nat → Nat
  | 0 => 0
  | k + 1 => if (encL (r.take (k + 1))).size ≤ t then k + 1 else fitK r t k
/-- What is left of a text that is cut to a number of bytes. -/
def cutB (s : ByteArray) (n : Nat) : ByteArray × Bool :=
  if s.size ≤ n then (s, false) else if n = 3 then (mark, true) else if n < 3 then (⟨(Lib.repeatL [46] n).toArray⟩, true)
  else (encL ((runesI s 0).take (fitK (runesI s 0) (n - 3) (n - 3))) ++ mark, true)
def impl_TruncateBytes.f (a0 : ByteArray) (a1 : Int) : Option (ByteArray × Bool) :=
  if a0.size ≤ 1000000 ∧ 0 ≤ a1 ∧ a1 ≤ 1048576 ∧ (a1 ≤ 3 ∨ a1.toNat - 3 ≤ (runesI a0 0).length ∨ (a0.size : Int) ≤ a1) then some (cutB a0 a1.toNat) else none
def slen : Value → Nat
  | .slice _ n _ => n
  | _ => 0
theorem fitK_stop {r : List Nat} {t k : Nat} (h : (encL (r.take k)).size ≤ t) : fitK r t k = k := by
  cases k with
  | zero => rfl
  | succ k => rw [fitK, if_pos h]
theorem fitK_next {r : List Nat} {t k : Nat} (h : ¬ (encL (r.take (k + 1))).size ≤ t) : fitK r t (k + 1) = fitK r t k := by rw [fitK, if_neg h]
set_option maxRecDepth 100000 in
set_option maxHeartbeats 1000000 in
theorem truncB_calls (s : ByteArray) (n : Nat) (hs : s.size ≤ 1000000) (hn : n ≤ 1048576) (hr : n ≤ 3 ∨ n - 3 ≤ (runesI s 0).length ∨ s.size ≤ n) (w : World) :
    Calls Tryd.prog 37 #[.string s, .int .i64 (n : Int)] w fun e w' => e = .returned (.tuple #[.string (cutB s n).1, .bool (cutB s n).2]) ∧ Below w.heap.size w w' := by
  by_cases h1 : s.size ≤ n
  · have HO : Aside0 (cutB s n = (s, false)) := ⟨by unfold cutB; rw [if_pos h1]⟩
    rw [HO.out]
    have h1' : ((s.size : Int) ≤ (n : Int)) = True := eq_true (by omega)
    clear hr
    go_enter Tryd.func37, Tryd.ntmps37
    go_wp2
    go_ret2
    exact ⟨rfl, Below.refl _ _⟩
  by_cases h3 : n = 3
  · subst h3
    have HO : Aside0 (cutB s 3 = (mark, true)) := ⟨by unfold cutB; rw [if_neg h1, if_pos rfl]⟩
    rw [HO.out]
    have h1' : decide (s.size ≤ 3) = false := decide_eq_false h1
    unfold mark
    clear hr
    go_enter Tryd.func37, Tryd.ntmps37
    go_wp2
    first | (rw [Exit.noGoto_ret]; go_ret2) | go_ret2
    exact ⟨rfl, Below.refl _ _⟩
  by_cases h2 : n < 3
  · have HO : Aside0 (cutB s n = (⟨(Lib.repeatL [46] n).toArray⟩, true)) := ⟨by unfold cutB; rw [if_neg h1, if_neg h3, if_pos h2]⟩
    rw [HO.out]
    have h4 : n ≤ 3 := by omega
    have h5 : ((n : Int) == 3) = false := beq_eq_false_iff_ne.2 (by omega)
    clear hr
    go_enter Tryd.func37, Tryd.ntmps37
    go_wp2_with (go_at_call 52; refine (Tryd.strings_Repeat ⟨#[46]⟩ n _ (by omega) (by show 1 * n ≤ _; omega)).mono ?_; rintro e w1 ⟨rfl, hb⟩; have HB := Aside0.mk hb; clear hb)
    first | (rw [Exit.noGoto_ret]; go_ret2) | go_ret2
    exact ⟨rfl, HB.out⟩
  obtain ⟨w1, b, cap, H⟩ := runes_at s hs w
  have HR := Aside0.mk H
  have hcv := H.run
  have hback := H.back
  have hcap := H.le
  have hlen := runesI_len s s.size 0 (by omega)
  clear H
  have hE : ∀ k, (encL ((runesI s 0).take k)).size ≤ 4000000 := fun k => by have := encL_size ((runesI s 0).take k); rw [List.length_take] at this; omega
  obtain ⟨tg, rfl⟩ : ∃ tg, n = tg + 3 := ⟨n - 3, by omega⟩
  have hO : cutB s (tg + 3) = (encL ((runesI s 0).take (fitK (runesI s 0) tg tg)) ++ mark, true) := by
    unfold cutB
    rw [if_neg h1, if_neg h3, if_neg h2, Nat.add_sub_cancel]
  rw [hO]
  unfold mark
  have htl : tg ≤ (runesI s 0).length := by omega
  generalize hL : runesI s 0 = r at *
  clear hO hL hr
  have h4 : ¬ tg + 3 ≤ 3 := by omega
  have HBK := Aside0.mk hback
  have HE := Aside0.mk hE
  clear hback hE h3 h2
  generalize r.length = len at *
  have hcv2 : ((tg : Int) + 3 - 3) = (tg : Int) := by omega
  go_enter Tryd.func37, Tryd.ntmps37
  go_wp2
  go_loop [8] (fun v => ∃ k : Nat, v = .slice (some ⟨b, 0, none⟩) k cap ∧ k ≤ tg ∧ Aside0 (fitK r tg k = fitK r tg tg)) (fun v => slen v)
  case atStart => exact ⟨tg, rfl, Nat.le_refl _, ⟨rfl⟩⟩
  case round =>
    obtain ⟨k, rfl, hk, HF⟩ := hrel
    have hb := HBK.out k cap (by omega)
    have hz := HE.out k
    by_cases hfit : (encL (r.take k)).size ≤ tg
    · have HO : Aside0 (fitK r tg tg = k) := ⟨HF.out.symm.trans (fitK_stop hfit)⟩
      obtain ⟨x, hx⟩ : ∃ x, x = encL (r.take k) := ⟨_, rfl⟩
      have HX := Aside0.mk hx
      rw [← hx] at hb hz hfit
      have z1 : (9223372036854775807 < x.size + 3) = False := eq_false (by omega)
      have z2 : ((tg : Int) < (x.size : Int)) = False := eq_false (by omega)
      clear HF hx
      go_wp2
      first | (rw [Exit.noGoto_ret]; go_ret2) | go_ret2
      refine ⟨?_, HR.out.bel⟩
      rw [HO.out, ← HX.out]
      rfl
    · obtain ⟨k, rfl⟩ : ∃ j, k = j + 1 := ⟨k - 1, by
        rcases Nat.eq_zero_or_pos k with h0 | h0
        · exfalso; apply hfit; have := encL_size (r.take k); rw [List.length_take] at this; omega
        · omega⟩
      have HF2 := Aside0.mk ((fitK_next hfit).symm.trans HF.out)
      have z2 : ((tg : Int) < ((encL (r.take (k + 1))).size : Int)) = True := eq_true (by omega)
      have hk1 : (((k + 1 : Nat) : Int) - 1) = (k : Int) := by omega
      clear HF
      go_wp2
      go_round
      case rel => exact ⟨k, rfl, by omega, HF2⟩
      case measure => simp [slen]
set_option maxHeartbeats 800000 in
theorem impl_TruncateBytes.calls (a0 : ByteArray) (a1 : Int) (r1 : ByteArray) (r2 : Bool) (w : World) (h : impl_TruncateBytes.f a0 a1 = some (r1, r2)) :
    Calls Tryd.prog 21 #[.string a0, .int .i64 a1] w fun e w' => e = .returned (.tuple #[.string r1, .bool r2]) ∧ Below w.heap.size w w' := by
  unfold impl_TruncateBytes.f at h
  split at h
  case isFalse => cases h
  case isTrue hi =>
  obtain ⟨n, rfl⟩ : ∃ n : Nat, a1 = n := ⟨a1.toNat, by omega⟩
  have h' := Option.some.inj h
  rw [Int.toNat_natCast] at h'
  obtain rfl : r1 = (cutB a0 n).1 := by rw [h']
  obtain rfl : r2 = (cutB a0 n).2 := by rw [h']
  have HC := fun w => truncB_calls a0 n hi.1 (by omega) (by omega) w
  generalize cutB a0 n = c at *
  clear h h' hi
  go_enter Tryd.func21, Tryd.ntmps21
  go_wp2_with fail
  refine (HC _).mono ?_
  rintro e w1 ⟨rfl, hb⟩
  have HB := Aside0.mk hb
  clear hb HC
  go_wp2
  go_ret2
  exact ⟨rfl, HB.out⟩
set_option maxHeartbeats 800000 in
theorem impl_TruncateRunes.calls (a0 : ByteArray) (a1 : Int) (r1 : ByteArray) (r2 : Bool) (w : World) (h : impl_TruncateRunes.f a0 a1 = some (r1, r2)) :
    Calls Tryd.prog 24 #[.string a0, .int .i64 a1] w fun e w' => e = .returned (.tuple #[.string r1, .bool r2]) ∧ Below w.heap.size w w' := by
  unfold impl_TruncateRunes.f at h
  split at h
  case isFalse => cases h
  case isTrue hi =>
  obtain ⟨n, rfl⟩ : ∃ n : Nat, a1 = n := ⟨a1.toNat, by omega⟩
  have h' := Option.some.inj h
  rw [Int.toNat_natCast] at h'
  obtain rfl : r1 = (cutR a0 n).1 := by rw [h']
  obtain rfl : r2 = (cutR a0 n).2 := by rw [h']
  have HC := fun w => truncR_calls a0 n hi.1 (by omega) w
  generalize cutR a0 n = c at *
  clear h h' hi
  go_enter Tryd.func24, Tryd.ntmps24
  go_wp2_with fail
  refine (HC _).mono ?_
  rintro e w1 ⟨rfl, hb⟩
  have HB := Aside0.mk hb
  clear hb HC
  go_wp2
  go_ret2
  exact ⟨rfl, HB.out⟩
end Go.Proofs.YtkbaihcamimnjaaDoor.Q
