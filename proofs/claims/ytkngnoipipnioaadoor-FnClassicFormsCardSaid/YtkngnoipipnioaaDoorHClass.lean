/- labels.ParseMatcher (under way). Condition: a text of at most 100000 bytes; the library's tables of UTF-8 as it lays them. -/
import Derived.Test.YtkngnoipipnioaaDoorHBldA
import Derived.Test.YtkngnoipipnioaaDoorHSBuild
import Derived.Test.YtkngnoipipnioaaDoorHErr
import Derived.Test.YtkngnoipipnioaaDoorHDec
import Derived.Test.YtkngnoipipnioaaDoorHValid
import Derived.Test.YtkngnoipipnioaaDoorUClass
import Derived.Test.YtkngnoipipnioaaDoorQC
import Derived.Test.YtkngnoipipnioaaDoorQD
import Derived.Outline
set_option linter.unusedVariables false
set_option linter.unusedSimpArgs false
namespace Go.Proofs.YtkngnoipipnioaaDoor.Q
open Go.RowKit Go.Lib Go.Proofs.YtkngnoipipnioaaDoorW.PrintWords Go.Proofs.YtkngnoipipnioaaDoorW.PrintLast Go.Proofs.YtkngnoipipnioaaDoorW.PrintMore
attribute [local go_sem] max2_int min2_int max_two min_two max_three min_three max_four min_four
theorem IsB.belowC {B b : Nat} {acc : List UInt8} {w w' : World} (h : IsB B b acc w) (hb : Below w.heap.size w w') : IsB B b acc w' := by
  have one : ∀ p, BAt B b p acc w → BAt B b p acc w' := fun p h => by
    obtain ⟨hB, v, hbk, ho, hne⟩ := h
    have hlt : b < w.heap.size := (Array.getElem?_eq_some_iff.1 hbk).1
    refine ⟨hB, v, (hb.block b hlt).trans hbk, World.ownsRow.kept ho (grown_of_below hb none) ?_, hne⟩
    cases hv : v.ownBlock
    · exact .inl rfl
    · exact .inr (by simp)
  exact h.elim (fun x => .inl (one _ x)) (fun x => .inr (one _ x))
theorem IsB.iterAt {B b : Nat} {acc : List UInt8} {w : World} (h : IsB B b acc w) {k : Nat} {s : ByteArray} {pos : Nat} (hk : w.heap[k]? = some (.stringIter s pos)) (pos' : Nat) : IsB B b acc (w.iterAt k s pos') := by
  have one : ∀ p, BAt B b p acc w → BAt B b p acc (w.iterAt k s pos') := fun p h => by
    obtain ⟨hB, v, hb, ho, hne⟩ := h
    have hkb : b ≠ k := by
      intro e1
      rw [e1, hk] at hb
      cases hb
    refine ⟨hB, v, (iterAt_other w k b s pos' hkb).trans hb, ⟨ho.1, ?_⟩, hne⟩
    rcases ho.2 with hn | ⟨g, cap, cur, hv, hbg, hg, rest⟩
    · exact .inl hn
    · have hkg : g ≠ k := by
        intro e1
        rw [e1, hk] at hg
        cases hg
      exact .inr ⟨g, cap, cur, hv, hbg, (iterAt_other w k g s pos' hkg).trans hg, rest⟩
  exact h.elim (fun x => .inl (one _ x)) (fun x => .inr (one _ x))
theorem IsB.drewC {B b : Nat} {acc : List UInt8} {w : World} (h : IsB B b acc w) : IsB B b acc w.drew := h.belowC (below_drew (Below.refl _ _))
theorem IsB.drewNC {B b n : Nat} {acc : List UInt8} {w : World} (h : IsB B b acc w) : IsB B b acc (w.drewN n) := h.belowC (pw_below_drewN (Below.refl _ _) n)
theorem KeepO.iter {b : Nat} {w w' : World} (h : KeepO b w w') {k : Nat} {s : ByteArray} {pos : Nat} (hk : w.heap[k]? = some (.stringIter s pos)) (hkb : k ≠ b) : w'.heap[k]? = some (.stringIter s pos) :=
  h k _ hk hkb (fun _ _ e1 => by cases e1)
/-- The four parts of a matcher's text, in a block of their own. -/
def PartsAt (w : World) (g : Nat) (p0 p1 p2 p3 : ByteArray) : Prop := ∃ cur, w.heap[g]? = some (.cells cur 9 (0, 0)) ∧ cur[0]? = some (.string p0) ∧ cur[1]? = some (.string p1) ∧ cur[2]? = some (.string p2) ∧ cur[3]? = some (.string p3)
theorem PartsAt.of_R {w : World} {base : Nat} {v : Value} {p0 p1 p2 p3 : ByteArray} (h : Kd.R Kd.string 9 w base (fun _ => True) v [p0, p1, p2, p3]) : ∃ g c, v = .slice (some ⟨g, 0, none⟩) 4 c ∧ base ≤ g ∧ PartsAt w g p0 p1 p2 p3 := by
  have ho := Kd.own_of_R h
  rcases ho.2 with ⟨_, h0⟩ | ⟨g, cap, cur, hv, hg, hh, hc, hm, hs, ht⟩
  · simp at h0
  · refine ⟨g, cap, hv, hg, cur, hh, ?_, ?_, ?_, ?_⟩
    all_goals
      have hk : ∀ k, k < 4 → cur[k]? = (encs Value.string [p0, p1, p2, p3])[k]? := fun k hk => by
        rw [← ht, List.getElem?_take, if_pos (by simpa using hk), Array.getElem?_toList]
      first | exact hk 0 (by omega) | exact hk 1 (by omega) | exact hk 2 (by omega) | exact hk 3 (by omega)
theorem PartsAt.cell {w : World} {g : Nat} {p0 p1 p2 p3 : ByteArray} (h : PartsAt w g p0 p1 p2 p3) : w.cell? ⟨g, 0, none⟩ = some (.string p0) ∧ w.cell? ⟨g, 1, none⟩ = some (.string p1) ∧ w.cell? ⟨g, 2, none⟩ = some (.string p2) ∧ w.cell? ⟨g, 3, none⟩ = some (.string p3) := by
  obtain ⟨cur, hh, h0, h1, h2, h3⟩ := h
  exact ⟨(Lib.cell_of_heap hh 0).trans h0, (Lib.cell_of_heap hh 1).trans h1, (Lib.cell_of_heap hh 2).trans h2, (Lib.cell_of_heap hh 3).trans h3⟩
theorem PartsAt.below {w w' : World} {g : Nat} {p0 p1 p2 p3 : ByteArray} (h : PartsAt w g p0 p1 p2 p3) (hb : Below w.heap.size w w') : PartsAt w' g p0 p1 p2 p3 := by
  obtain ⟨cur, hh, r⟩ := h
  exact ⟨cur, (hb.block g (Array.getElem?_eq_some_iff.1 hh).1).trans hh, r⟩
theorem PartsAt.keep {w w' : World} {g b : Nat} {p0 p1 p2 p3 : ByteArray} (h : PartsAt w g p0 p1 p2 p3) (hk : KeepO b w w') (hne : g ≠ b) : PartsAt w' g p0 p1 p2 p3 := by
  obtain ⟨cur, hh, r⟩ := h
  exact ⟨cur, hk g _ hh hne (fun cs fr e => by injection e with _ e2 _; cases e2), r⟩
/-- What ParseMatcher makes of a text: its kind, its name, its value. -/
def rawV (p3 : ByteArray) : ByteArray × Bool := if p3.data.toList.head? = some 34 then (p3.extract 1 p3.size, true) else (p3, false)
theorem cut_is (p3 : ByteArray) (hs : p3.size ≤ 100000) : strings_CutPrefix.f p3 ⟨#[34]⟩ = some (rawV p3) := by
  have hp : stringslite_HasPrefix.f p3 ⟨#[34]⟩ = some (decide (p3.data.toList.head? = some 34)) := by
    unfold stringslite_HasPrefix.f
    have h1 : ((⟨#[34]⟩ : ByteArray).size : Int) = 1 := rfl
    rw [h1]
    by_cases h : (p3.size : Int) ≥ 1
    · rw [if_pos h, if_pos (by omega), if_pos (by omega)]
      congr 1
      have e : (p3.extract 0 (1 : Int).toNat).toList = p3.data.toList.take 1 := by
        rw [ByteArray.toList_eq, ByteArray.data_extract, Array.toList_extract, List.extract_eq_take_drop]
        rfl
      rw [e, ByteArray.toList_eq]
      cases hl : p3.data.toList with
      | nil =>
        have h0 : p3.data.size = 0 := by rw [← Array.length_toList, hl]; rfl
        have h2 : p3.data.size = p3.size := rfl
        omega
      | cons c l =>
        show ([c] == [34]) = _
        by_cases hc : c = 34
        · subst hc; simp
        · simp [hc]
    · rw [if_neg h]
      have hl : p3.data.toList = [] := List.eq_nil_of_length_eq_zero (by rw [Array.length_toList]; show p3.size = 0; omega)
      rw [hl]
      rfl
  unfold strings_CutPrefix.f stringslite_CutPrefix.f
  rw [hp]
  unfold rawV
  by_cases h : p3.data.toList.head? = some 34
  · have hpos : 1 ≤ p3.size := by
      rcases Nat.eq_zero_or_pos p3.size with h0 | h0
      · have hl : p3.data.toList = [] := List.eq_nil_of_length_eq_zero (by rw [Array.length_toList]; exact h0)
        rw [hl] at h
        cases h
      · exact h0
    have h1 : ((⟨#[34]⟩ : ByteArray).size : Int) = 1 := rfl
    simp only [Option.bind_some, decide_eq_true h, h1]
    rw [if_pos trivial, if_pos (by omega), if_pos (by omega), if_pos h]
    rfl
  · simp only [Option.bind_some, decide_eq_false h]
    rw [if_neg (by decide), if_neg h]
    rfl
def MatchOut (w : World) (o : Option (Int × ByteArray × ByteArray)) (e : Ending) (w' : World) : Prop := ∃ p v, e = .returned (.tuple #[p, v]) ∧ Below w.heap.size w w' ∧ match o with
  | none => errIs false v
  | some (k, n, x) => v = .nilIface ∧ ∃ g, p = .pointer (some ⟨g, 0, none⟩) ∧ w'.heap[g]? = some (.cells #[.int .i64 k, .string n, .string x] 75 (0, 0))
set_option maxHeartbeats 1000000 in
theorem newMatcher_calls (k : Int) (n x : ByteArray) (w : World) :
    Calls Tryd.prog 38 #[.int .i64 k, .string n, .string x] w fun e w' => ∃ g, e = .returned (.tuple #[.pointer (some ⟨g, 0, none⟩), .nilIface]) ∧ w'.heap[g]? = some (.cells #[.int .i64 k, .string n, .string x] 75 (0, 0)) ∧ Below w.heap.size w w' := by
  have hu := Tryd.underlying75
  have hup := Tryd.underlying44
  go_enter Tryd.func38, Tryd.ntmps38
  go_wp2
  go_ret2
  exact ⟨w.heap.size, rfl, heap_alloc_new w _, below_alloc (Below.refl _ _) _⟩
/-- The state at the head of the loop over the raw value. -/
structure ClAt (raw : ByteArray) (tot : Option (List UInt8)) (g b kb : Nat) (p0 p1 p2 p3 : ByteArray) (w wr : World) (esc ex : Bool) (acc : List UInt8) (pos : Nat) : Prop where
  le : pos ≤ raw.size
  all : valF esc ex (raw.data.toList.drop pos) acc = tot
  val : Lib.validD (raw.data.toList.drop pos) = true
  last : esc = true → pos < raw.size
  bld : IsB b b acc wr
  lowb : w.heap.size ≤ b
  it : wr.heap[kb]? = some (.stringIter raw pos)
  parts : PartsAt wr g p0 p1 p2 p3
  ne : kb ≠ b
  ne2 : g ≠ b
  low : w.heap.size ≤ kb
  bel : Below w.heap.size w wr
  len : acc.length ≤ 2 * pos
/-- Within a round: the iterator has gone on. -/
structure ClIn (raw : ByteArray) (g b kb : Nat) (p0 p1 p2 p3 : ByteArray) (w w1 : World) (acc : List UInt8) (pos : Nat) : Prop where
  bld : IsB b b acc w1
  lowb : w.heap.size ≤ b
  it : w1.heap[kb]? = some (.stringIter raw pos)
  parts : PartsAt w1 g p0 p1 p2 p3
  ne : kb ≠ b
  ne2 : g ≠ b
  low : w.heap.size ≤ kb
  bel : Below w.heap.size w w1
section
variable {raw : ByteArray} {tot : Option (List UInt8)} {g b kb : Nat} {p0 p1 p2 p3 : ByteArray} {w w1 w2 : World} {esc ex : Bool} {acc p : List UInt8} {pos : Nat}
theorem ClAt.next (h : ClAt raw tot g b kb p0 p1 p2 p3 w w1 esc ex acc pos) (pos' : Nat) : ClIn raw g b kb p0 p1 p2 p3 w (w1.iterAt kb raw pos') acc pos' :=
  ⟨h.bld.iterAt h.it _, h.lowb, Lib.iterAt_heap w1 kb raw pos _ h.it, (by
    obtain ⟨cur, hh, r⟩ := h.parts
    refine ⟨cur, (iterAt_other w1 kb g raw pos' (fun e => ?_)).trans hh, r⟩
    rw [e, h.it] at hh
    cases hh), h.ne, h.ne2, h.low, Lib.below_iterAt h.bel h.low raw _⟩
theorem ClIn.write (h : ClIn raw g b kb p0 p1 p2 p3 w w1 acc pos) (hI : IsB b b (acc ++ p) w2) (hB : Below b w1 w2) (hK : KeepO b w1 w2) : ClIn raw g b kb p0 p1 p2 p3 w w2 (acc ++ p) pos :=
  ⟨hI, h.lowb, hK.iter h.it h.ne, h.parts.keep hK h.ne2, h.ne, h.ne2, h.low, h.bel.trans (hB.mono h.lowb)⟩
theorem ClIn.done (h : ClIn raw g b kb p0 p1 p2 p3 w w1 acc pos) (hle : pos ≤ raw.size) (hall : valF esc ex (raw.data.toList.drop pos) acc = tot) (hval : Lib.validD (raw.data.toList.drop pos) = true) (hlast : esc = true → pos < raw.size) (hlen : acc.length ≤ 2 * pos) : ClAt raw tot g b kb p0 p1 p2 p3 w w1 esc ex acc pos :=
  ⟨hle, hall, hval, hlast, h.bld, h.lowb, h.it, h.parts, h.ne, h.ne2, h.low, h.bel, hlen⟩
theorem ClAt.ends (h : ClAt raw tot g b kb p0 p1 p2 p3 w w1 esc ex acc pos) (hp : ¬ pos < raw.size) : tot = if ex then none else some acc := by
  rw [← h.all, List.drop_eq_nil_of_le (by rw [Array.length_toList]; show raw.size ≤ pos; omega)]
  cases esc <;> rfl
end
/-- A round's character, and what is left behind it. -/
theorem rune_ascii (raw : ByteArray) (pos : Nat) (hp : pos < raw.size) (hb : (raw[pos]'hp).toNat < 128) : Utf8.decode raw pos = ((raw[pos]'hp).toNat, 1) := decode_ascii raw pos hp hb
theorem enc_one (u : UInt8) (h : u.toNat < 128) : Lib.encodeRune (u.toNat : Int) = [u] := by
  unfold Lib.encodeRune
  rw [Lib.encodeRuneZ_one (by omega) (by omega)]
  simp
theorem isB_ltC {B b : Nat} {acc : List UInt8} {w : World} (h : IsB B b acc w) : b < w.heap.size := by
  rcases h with ⟨_, v, hb, _⟩ | ⟨_, v, hb, _⟩ <;> exact (Array.getElem?_eq_some_iff.1 hb).1
theorem rawV_cases (p3 : ByteArray) : rawV p3 = (p3, false) ∨ ∃ raw, rawV p3 = (raw, true) := by
  unfold rawV
  split
  · exact Or.inr ⟨_, rfl⟩
  · exact Or.inl rfl
set_option maxRecDepth 100000 in
set_option maxHeartbeats 8000000 in
theorem parseM_calls (s p0 p1 p2 p3 : ByteArray) (k : Nat) (w : World) (tb : TBu w) (hp : labels_zzMatcherParts.f k s = some [p0, p1, p2, p3]) (h3 : p3.size ≤ 100000) (kd : Int) (hkd : labels_zzTypeOf.f p2 = some kd)
    (raw : ByteArray) (ex : Bool) (hR : rawV p3 = (raw, ex)) (hrs : raw.size ≤ 100000) (hx : ex = false → raw = p3) :
    Calls Tryd.prog 18 #[.string s] w (MatchOut w (if Lib.validD raw.data.toList = true then (valF false ex raw.data.toList []).map fun x => (kd, p1, ⟨x.toArray⟩) else none)) := by
  have HP := Aside0.mk hp
  have HT := Aside0.mk tb
  have HC := Aside0.mk (cut_is p3 h3)
  rw [hR] at HC
  clear hp tb hR
  cases hv : Lib.validD raw.data.toList
  · have HV := Aside0.mk hv
    clear hv
    rw [if_neg (by decide)]
    cases ex
    · obtain rfl := hx rfl
      clear hx
      go_enter Tryd.func18, Tryd.ntmps18
      go_wp2_with (first | (go_at_call 32; refine (labels_zzMatcherParts.calls k s _ _ HP.out).mono ?_; rintro e w1 ⟨v, rfl, hR, hb⟩; obtain ⟨g, c, e4, hgl, hPA⟩ := PartsAt.of_R hR; subst e4; obtain ⟨c0, c1, c2, c3⟩ := hPA.cell; have HB1 := Aside0.mk hb; have HP1 := Aside0.mk hPA; clear hR hb hPA) | (go_at_call 34; refine (strings_CutPrefix.calls _ ⟨#[34]⟩ _ _ _ HC.out).mono ?_; rintro e w2 ⟨rfl, hd⟩; have HB2 := Aside0.mk (below_step (below_alloc HB1.out _) hd.below); have HP2 := Aside0.mk ((HP1.out.below (below_alloc (Below.refl _ _) _)).below hd.below); have HB11 := Aside0.mk hd.below; clear hd) | (go_at_call 35; refine (utf8_ValidString.calls raw _ _ (TBu.below HT.out HB2.out) (if_pos (by omega))).mono ?_; rintro e w3 ⟨rfl, hb3⟩; rw [HV.out]; have HB3 := Aside0.mk (below_step HB2.out hb3); have HP3 := Aside0.mk (HP2.out.below hb3); have HB12 := Aside0.mk (HB11.out.trans (hb3.mono HB11.out.size)); clear hb3) | (go_at_call 33; refine (errNew_calls _ _).mono ?_; rintro e w9 ⟨g9, rfl, hb9⟩; have HB9 := Aside0.mk (below_step HB3.out hb9); clear hb9))
      go_ret2
      exact ⟨_, _, rfl, HB9.out, ⟨_, rfl⟩⟩
    · clear hx
      go_enter Tryd.func18, Tryd.ntmps18
      go_wp2_with (first | (go_at_call 32; refine (labels_zzMatcherParts.calls k s _ _ HP.out).mono ?_; rintro e w1 ⟨v, rfl, hR, hb⟩; obtain ⟨g, c, e4, hgl, hPA⟩ := PartsAt.of_R hR; subst e4; obtain ⟨c0, c1, c2, c3⟩ := hPA.cell; have HB1 := Aside0.mk hb; have HP1 := Aside0.mk hPA; clear hR hb hPA) | (go_at_call 34; refine (strings_CutPrefix.calls _ ⟨#[34]⟩ _ _ _ HC.out).mono ?_; rintro e w2 ⟨rfl, hd⟩; have HB2 := Aside0.mk (below_step (below_alloc HB1.out _) hd.below); have HP2 := Aside0.mk ((HP1.out.below (below_alloc (Below.refl _ _) _)).below hd.below); have HB11 := Aside0.mk hd.below; clear hd) | (go_at_call 35; refine (utf8_ValidString.calls raw _ _ (TBu.below HT.out HB2.out) (if_pos (by omega))).mono ?_; rintro e w3 ⟨rfl, hb3⟩; rw [HV.out]; have HB3 := Aside0.mk (below_step HB2.out hb3); have HP3 := Aside0.mk (HP2.out.below hb3); have HB12 := Aside0.mk (HB11.out.trans (hb3.mono HB11.out.size)); clear hb3) | (go_at_call 33; refine (errNew_calls _ _).mono ?_; rintro e w9 ⟨g9, rfl, hb9⟩; have HB9 := Aside0.mk (below_step HB3.out hb9); clear hb9))
      go_ret2
      exact ⟨_, _, rfl, HB9.out, ⟨_, rfl⟩⟩
  · have HV := Aside0.mk hv
    rw [if_pos rfl]
    have HTO : Aside0 (∃ tot, valF false ex raw.data.toList [] = tot) := ⟨_, rfl⟩
    obtain ⟨tot, htot⟩ := HTO.out
    rw [htot]
    have HTO := Aside0.mk htot
    clear hv htot
    cases ex
    · obtain rfl := hx rfl
      clear hx
      go_enter Tryd.func18, Tryd.ntmps18
      go_wp2_with (first | (go_at_call 32; refine (labels_zzMatcherParts.calls k s _ _ HP.out).mono ?_; rintro e w1 ⟨v, rfl, hR, hb⟩; obtain ⟨g, c, e4, hgl, hPA⟩ := PartsAt.of_R hR; subst e4; obtain ⟨c0, c1, c2, c3⟩ := hPA.cell; have HB1 := Aside0.mk hb; have HP1 := Aside0.mk hPA; clear hR hb hPA) | (go_at_call 34; refine (strings_CutPrefix.calls _ ⟨#[34]⟩ _ _ _ HC.out).mono ?_; rintro e w2 ⟨rfl, hd⟩; have HB2 := Aside0.mk (below_step (below_alloc HB1.out _) hd.below); have HP2 := Aside0.mk ((HP1.out.below (below_alloc (Below.refl _ _) _)).below hd.below); have HB11 := Aside0.mk hd.below; clear hd) | (go_at_call 35; refine (utf8_ValidString.calls raw _ _ (TBu.below HT.out HB2.out) (if_pos (by omega))).mono ?_; rintro e w3 ⟨rfl, hb3⟩; rw [HV.out]; have HB3 := Aside0.mk (below_step HB2.out hb3); have HP3 := Aside0.mk (HP2.out.below hb3); have HB12 := Aside0.mk (HB11.out.trans (hb3.mono HB11.out.size)); clear hb3))
      have HS : Aside0 (ClAt raw tot g w1.heap.size w3.heap.size p0 p1 p2 raw w (w3.iter raw 0) false false [] 0) := ⟨by
        have hz := HB1.out.size
        have hF := fresh_isBuilder 65 5 w1
        have hlt : w1.heap.size < (w1.alloc (.cells #[.pointer none, .slice none 0 0] 65)).heap.size := by simp
        have hz2 := HB12.out.size
        have hF3 : IsB w1.heap.size w1.heap.size [] w3 := IsB.belowC hF HB12.out
        refine ⟨Nat.zero_le _, HTO.out, HV.out, (fun e => by cases e), hF3.belowC (below_alloc (Below.refl _ _) _), hz, World.iter_heap w3 raw 0, HP3.out.below (below_alloc (Below.refl _ _) _), ?_, ?_, ?_, below_alloc HB3.out _, Nat.zero_le _⟩
        · omega
        · have hg := HP1.out
          obtain ⟨cur, hh, _⟩ := hg
          have := (Array.getElem?_eq_some_iff.1 hh).1
          omega
        · have := HB3.out.size
          omega⟩
      go_loopw [7, 8] (fun v7 v8 wr => ∃ (esc ex : Bool) (acc : List UInt8) (pos : Nat), v7 = .bool esc ∧ v8 = .bool ex ∧ Aside0 (ClAt raw tot g w1.heap.size w3.heap.size p0 p1 p2 raw w wr esc ex acc pos)) (fun _ _ w' => raw.size - w'.iterPos w3.heap.size)
      case atStart => exact ⟨_, _, _, _, rfl, rfl, HS⟩
      case round =>
        obtain ⟨esc, ex, acc, pos, rfl, rfl, HE⟩ := hrel
        have hm : wr.iterPos w3.heap.size = pos := by simp [World.iterPos, HE.out.it]
        by_cases hp : pos < raw.size
        · have hnx0 := fun ty => Lib.run_next_any_at (P := Tryd.prog) wr w3.heap.size raw pos ty HE.out.it hp
          have HM : Aside0 (∀ (w4 : World) (e' x' : Bool) (a' : List UInt8) (q : Nat), pos < q → ClAt raw tot g w1.heap.size w3.heap.size p0 p1 p2 raw w w4 e' x' a' q → raw.size - w4.iterPos w3.heap.size < raw.size - wr.iterPos w3.heap.size) := ⟨fun w4 e' x' a' q hq h => by
            have h3 : w4.iterPos w3.heap.size = q := by simp [World.iterPos, h.it]
            rw [h3, hm]
            omega⟩
          have hlen := HE.out.len
          by_cases hb : (raw[pos]'hp).toNat < 128
          · have hnx := hnx0
            simp only [decode_ascii raw pos hp hb] at hnx
            have HI := Aside0.mk (HE.out.next (pos + 1))
            have HALL : Aside0 (valF esc ex ((raw[pos]'hp) :: raw.data.toList.drop (pos + 1)) acc = tot) := ⟨by rw [← drop_cons raw pos hp]; exact HE.out.all⟩
            have HVN := Aside0.mk (step_ascii raw pos hp hb HE.out.val)
            have HEN := Aside0.mk (enc_one (raw[pos]'hp) hb)
            have HBS : Aside0 (w1.heap.size ≤ (wr.iterAt w3.heap.size raw (pos + 1)).heap.size) := ⟨Nat.le_of_lt (isB_ltC HI.out.bld)⟩
            generalize (raw[pos]'hp) = u at *
            clear hnx0 hm HE HTO
            have hu0 : (0 : Int) ≤ (u.toNat : Int) := by omega
            cases esc
            · by_cases h92 : u = 92
              · subst h92
                by_cases hl : pos + 1 < raw.size
                · have hd : decide ((pos : Int) < (raw.size : Int) - 1) = true := decide_eq_true (by omega)
                  have HX : Aside0 (valF true ex (raw.data.toList.drop (pos + 1)) acc = tot) := ⟨by have := HALL.out; rw [valF, if_pos rfl, if_pos (by rw [drop_cons raw (pos + 1) hl]; simp)] at this; exact this⟩
                  have HN := Aside0.mk (HI.out.done (esc := true) (ex := ex) (by omega) HX.out HVN.out (fun _ => hl) (by omega))
                  go_wp2
                  go_roundw
                  case rel => exact ⟨_, _, _, _, rfl, rfl, HN⟩
                  case measure => exact HM.out _ _ _ _ _ (Nat.lt_succ_self _) HN.out
                · have hd : decide ((pos : Int) < (raw.size : Int) - 1) = false := decide_eq_false (by omega)
                  have HX : Aside0 (valF false ex (raw.data.toList.drop (pos + 1)) (acc ++ [92]) = tot) := ⟨by have := HALL.out; rw [valF, if_pos rfl, if_neg (by rw [List.drop_eq_nil_of_le (by rw [Array.length_toList]; show raw.size ≤ pos + 1; omega)]; simp)] at this; exact this⟩
                  go_wp2_with (go_at_call 36; refine (writeByte_calls _ _ _ 92 _ HI.out.bld (by omega) HBS.out).mono ?_; rintro e w4 ⟨rfl, hI, hB, hK⟩; have HN := Aside0.mk ((HI.out.write hI hB hK).done (esc := false) (ex := ex) (by omega) HX.out HVN.out (fun e => by cases e) (by rw [List.length_append]; simp; omega)); clear hI hB hK)
                  go_roundw
                  case rel => exact ⟨_, _, _, _, rfl, rfl, HN⟩
                  case measure => exact HM.out _ _ _ _ _ (Nat.lt_succ_self _) HN.out
              · by_cases h34 : u = 34
                · subst h34
                  cases ex
                  · have HT0 : Aside0 (tot = none) := ⟨by have := HALL.out; rw [valF, if_neg (by decide), if_pos rfl, if_pos (Or.inl rfl)] at this; exact this.symm⟩
                    go_wp2_with (go_at_call 33; refine (errNew_calls _ _).mono ?_; rintro e w9 ⟨g9, rfl, hb9⟩; have HB9 := Aside0.mk (below_step HI.out.bel hb9); clear hb9)
                    go_ret2
                    rw [HT0.out]
                    exact ⟨_, _, rfl, HB9.out, ⟨_, rfl⟩⟩
                  · by_cases hl : pos + 1 < raw.size
                    · have hd : decide ((pos : Int) < (raw.size : Int) - 1) = true := decide_eq_true (by omega)
                      have HT0 : Aside0 (tot = none) := ⟨by have := HALL.out; rw [valF, if_neg (by decide), if_pos rfl, if_pos (Or.inr (by rw [drop_cons raw (pos + 1) hl]; simp))] at this; exact this.symm⟩
                      go_wp2_with (go_at_call 33; refine (errNew_calls _ _).mono ?_; rintro e w9 ⟨g9, rfl, hb9⟩; have HB9 := Aside0.mk (below_step HI.out.bel hb9); clear hb9)
                      go_ret2
                      rw [HT0.out]
                      exact ⟨_, _, rfl, HB9.out, ⟨_, rfl⟩⟩
                    · have hd : decide ((pos : Int) < (raw.size : Int) - 1) = false := decide_eq_false (by omega)
                      have HX : Aside0 (valF false false (raw.data.toList.drop (pos + 1)) acc = tot) := ⟨by have := HALL.out; rw [valF, if_neg (by decide), if_pos rfl, if_neg (by rw [List.drop_eq_nil_of_le (by rw [Array.length_toList]; show raw.size ≤ pos + 1; omega)]; simp)] at this; exact this⟩
                      have HN := Aside0.mk (HI.out.done (esc := false) (ex := false) (by omega) HX.out HVN.out (fun e => by cases e) (by omega))
                      go_wp2
                      go_roundw
                      case rel => exact ⟨_, _, _, _, rfl, rfl, HN⟩
                      case measure => exact HM.out _ _ _ _ _ (Nat.lt_succ_self _) HN.out
                · have n92 : (u.toNat : Int) ≠ 92 := fun e => h92 (UInt8.toNat_inj.1 (by show u.toNat = 92; omega))
                  have n34 : (u.toNat : Int) ≠ 34 := fun e => h34 (UInt8.toNat_inj.1 (by show u.toNat = 34; omega))
                  have e92 : ((u.toNat : Int) == 92) = false := beq_eq_false_iff_ne.2 n92
                  have e34 : ((u.toNat : Int) == 34) = false := beq_eq_false_iff_ne.2 n34
                  have HX : Aside0 (valF false ex (raw.data.toList.drop (pos + 1)) (acc ++ [u]) = tot) := ⟨by have := HALL.out; rw [valF, if_neg h92, if_neg h34] at this; exact this⟩
                  clear n92 n34
                  go_wp2_with (go_at_call 37; refine (writeRuneA_calls _ _ _ (u.toNat : Int) (by omega) (by omega) _ HI.out.bld (by omega) HBS.out).mono ?_; rintro e w4 ⟨⟨n9, rfl⟩, hI, hB, hK⟩; rw [HEN.out] at hI; have HN := Aside0.mk ((HI.out.write hI hB hK).done (esc := false) (ex := ex) (by omega) HX.out HVN.out (fun e => by cases e) (by rw [List.length_append]; simp; omega)); clear hI hB hK)
                  go_roundw
                  case rel => exact ⟨_, _, _, _, rfl, rfl, HN⟩
                  case measure => exact HM.out _ _ _ _ _ (Nat.lt_succ_self _) HN.out
            · by_cases h110 : u = 110
              · subst h110
                have HX : Aside0 (valF false ex (raw.data.toList.drop (pos + 1)) (acc ++ [10]) = tot) := ⟨by have := HALL.out; rw [valF, if_pos rfl] at this; exact this⟩
                go_wp2_with (first | (go_at_call 36; refine (writeByte_calls _ _ _ 10 _ HI.out.bld (by omega) HBS.out).mono ?_; rintro e w4 ⟨rfl, hI, hB, hK⟩; have HN := Aside0.mk ((HI.out.write hI hB hK).done (esc := false) (ex := ex) (by omega) HX.out HVN.out (fun e => by cases e) (by rw [List.length_append]; simp; omega)); clear hI hB hK))
                go_roundw
                case rel => exact ⟨_, _, _, _, rfl, rfl, HN⟩
                case measure => exact HM.out _ _ _ _ _ (Nat.lt_succ_self _) HN.out
              · have n110 : (u.toNat : Int) ≠ 110 := fun e => h110 (UInt8.toNat_inj.1 (by show u.toNat = 110; omega))
                have e110 : ((u.toNat : Int) == 110) = false := beq_eq_false_iff_ne.2 n110
                by_cases h2 : u = 34 ∨ u = 92
                · have HX : Aside0 (valF false ex (raw.data.toList.drop (pos + 1)) (acc ++ [u]) = tot) := ⟨by have := HALL.out; rw [valF, if_neg h110, if_pos h2] at this; exact this⟩
                  have e2 : ((u.toNat : Int) == 34) = true ∨ (((u.toNat : Int) == 34) = false ∧ ((u.toNat : Int) == 92) = true) := by
                    rcases h2 with h | h
                    · exact Or.inl (by rw [h]; rfl)
                    · exact Or.inr ⟨by rw [h]; rfl, by rw [h]; rfl⟩
                  clear n110 h2 h110
                  rcases e2 with e34 | ⟨e34, e92⟩
                  all_goals
                    go_wp2_with (go_at_call 37; refine (writeRuneA_calls _ _ _ (u.toNat : Int) (by omega) (by omega) _ HI.out.bld (by omega) HBS.out).mono ?_; rintro e w4 ⟨⟨n9, rfl⟩, hI, hB, hK⟩; rw [HEN.out] at hI; have HN := Aside0.mk ((HI.out.write hI hB hK).done (esc := false) (ex := ex) (by omega) HX.out HVN.out (fun e => by cases e) (by rw [List.length_append]; simp; omega)); clear hI hB hK)
                    go_roundw
                    case rel => exact ⟨_, _, _, _, rfl, rfl, HN⟩
                    case measure => exact HM.out _ _ _ _ _ (Nat.lt_succ_self _) HN.out
                · have e34 : ((u.toNat : Int) == 34) = false := beq_eq_false_iff_ne.2 (fun e => h2 (Or.inl (UInt8.toNat_inj.1 (by show u.toNat = 34; omega))))
                  have e92 : ((u.toNat : Int) == 92) = false := beq_eq_false_iff_ne.2 (fun e => h2 (Or.inr (UInt8.toNat_inj.1 (by show u.toNat = 92; omega))))
                  have HX : Aside0 (valF false ex (raw.data.toList.drop (pos + 1)) (acc ++ [92] ++ [u]) = tot) := ⟨by have := HALL.out; rw [valF, if_neg h110, if_neg h2] at this; rw [List.append_assoc]; exact this⟩
                  clear n110 h2 h110
                  go_wp2_with (first | (go_at_call 36; refine (writeByte_calls _ _ _ 92 _ HI.out.bld (by omega) HBS.out).mono ?_; rintro e w4 ⟨rfl, hI, hB, hK⟩; have HI2 := Aside0.mk (HI.out.write hI hB hK); have HBS2 : Aside0 (w1.heap.size ≤ w4.heap.size) := ⟨Nat.le_of_lt (isB_ltC HI2.out.bld)⟩; clear hI hB hK) | (go_at_call 37; refine (writeRuneA_calls _ _ _ (u.toNat : Int) (by omega) (by omega) _ HI2.out.bld (by rw [List.length_append]; simp; omega) HBS2.out).mono ?_; rintro e w5 ⟨⟨n9, rfl⟩, hI, hB, hK⟩; rw [HEN.out] at hI; have HN := Aside0.mk ((HI2.out.write hI hB hK).done (esc := false) (ex := ex) (by omega) HX.out HVN.out (fun e => by cases e) (by rw [List.length_append, List.length_append]; simp; omega)); clear hI hB hK))
                  go_roundw
                  case rel => exact ⟨_, _, _, _, rfl, rfl, HN⟩
                  case measure => exact HM.out _ _ _ _ _ (Nat.lt_succ_self _) HN.out
          · have hb8 : 128 ≤ (raw[pos]'hp).toNat := by omega
            have hbig := (decode_high raw pos hp hb8).1
            have hwd := (decode_high raw pos hp hb8).2
            have hle9 := decode_le raw pos
            obtain ⟨q1, q2, q3, q4, q5⟩ := step_high raw pos hp hb8 HE.out.val ex acc
            have HI := Aside0.mk (HE.out.next (pos + (Utf8.decode raw pos).2))
            have HBS : Aside0 (w1.heap.size ≤ (wr.iterAt w3.heap.size raw (pos + (Utf8.decode raw pos).2)).heap.size) := ⟨Nat.le_of_lt (isB_ltC HI.out.bld)⟩
            have HQ := Aside0.mk (And.intro q1 (And.intro q2 (And.intro q3 (And.intro q4 q5))))
            have HALL := Aside0.mk HE.out.all
            have hnx := hnx0
            clear q2 q4 q5 hnx0 hm HE HTO hb hb8
            generalize Utf8.decode raw pos = d at *
            obtain ⟨c, wd⟩ := d
            simp only at hbig hwd hle9 q1 q3 hnx
            have e110 : ((c : Int) == 110) = false := beq_eq_false_iff_ne.2 (by omega)
            have e92 : ((c : Int) == 92) = false := beq_eq_false_iff_ne.2 (by omega)
            have e34 : ((c : Int) == 34) = false := beq_eq_false_iff_ne.2 (by omega)
            have hl9 := HQ.out.2.2.1
            have hwd4 : wd ≤ 4 := by rw [← q3, ← Lib.runeCells_length]; exact (Lib.runeCells_le _).2
            clear q3 hl9
            cases esc
            · have HX : Aside0 (valF false ex (raw.data.toList.drop (pos + wd)) (acc ++ Lib.encodeRune (c : Int)) = tot) := ⟨by rw [← HALL.out]; exact HQ.out.2.2.2.1.symm⟩
              go_wp2_with (go_at_call 37; refine (writeRuneA_calls _ _ _ (c : Int) (by omega) (by omega) _ HI.out.bld (by omega) HBS.out).mono ?_; rintro e w4 ⟨⟨n9, rfl⟩, hI, hB, hK⟩; have HN := Aside0.mk ((HI.out.write hI hB hK).done (esc := false) (ex := ex) (by omega) HX.out HQ.out.2.1 (fun e => by cases e) (by rw [List.length_append, HQ.out.2.2.1]; simp; omega)); clear hI hB hK)
              go_roundw
              case rel => exact ⟨_, _, _, _, rfl, rfl, HN⟩
              case measure => exact HM.out _ _ _ _ _ (by omega) HN.out
            · have HX : Aside0 (valF false ex (raw.data.toList.drop (pos + wd)) (acc ++ [92] ++ Lib.encodeRune (c : Int)) = tot) := ⟨by rw [← HALL.out]; exact HQ.out.2.2.2.2.symm⟩
              go_wp2_with (first | (go_at_call 36; refine (writeByte_calls _ _ _ 92 _ HI.out.bld (by omega) HBS.out).mono ?_; rintro e w4 ⟨rfl, hI, hB, hK⟩; have HI2 := Aside0.mk (HI.out.write hI hB hK); have HBS2 : Aside0 (w1.heap.size ≤ w4.heap.size) := ⟨Nat.le_of_lt (isB_ltC HI2.out.bld)⟩; clear hI hB hK) | (go_at_call 37; refine (writeRuneA_calls _ _ _ (c : Int) (by omega) (by omega) _ HI2.out.bld (by rw [List.length_append]; simp; omega) HBS2.out).mono ?_; rintro e w5 ⟨⟨n9, rfl⟩, hI, hB, hK⟩; have HN := Aside0.mk ((HI2.out.write hI hB hK).done (esc := false) (ex := ex) (by omega) HX.out HQ.out.2.1 (fun e => by cases e) (by rw [List.length_append, List.length_append, HQ.out.2.2.1]; simp; omega)); clear hI hB hK))
              go_roundw
              case rel => exact ⟨_, _, _, _, rfl, rfl, HN⟩
              case measure => exact HM.out _ _ _ _ _ (by omega) HN.out
        · have hnx := fun ty => Lib.run_next_end_at (P := Tryd.prog) wr w3.heap.size raw pos ty HE.out.it hp
          have HA := Aside0.mk (HE.out.ends hp)
          clear HTO hm hp
          cases ex
          · obtain ⟨k0, k1, k2, k3⟩ := PartsAt.cell HE.out.parts
            go_wp2
            have HGB : Aside0 (g < w1.heap.size) := ⟨by obtain ⟨cur, hh, _⟩ := HP1.out; exact (Array.getElem?_eq_some_iff.1 hh).1⟩
            have HBS : Aside0 (w1.heap.size ≤ wr.heap.size) := ⟨Nat.le_of_lt (isB_ltC HE.out.bld)⟩
            have hlow : w.heap.size ≤ w1.heap.size := HE.out.lowb
            have HBW := Aside0.mk HE.out.bel
            have HTA : Aside0 (tot = some acc) := ⟨HA.out⟩
            go_region_held3 (fun w' => w'.cell? ⟨g, 1, none⟩ = some (.string p1) ∧ w'.cell? ⟨g, 2, none⟩ = some (.string p2) ∧ Aside0 (Below w.heap.size w w')) (first | (with_reducible exact ⟨m1, m2, HB6⟩) | (with_reducible exact ⟨r1, r2, HB7⟩) | exact ⟨by simpa using k1, by simpa using k2, HBW⟩ | exact ⟨by simpa using k1, by simpa using k2, ⟨by repeat (first | (with_reducible exact HBW.out) | apply below_drew | apply pw_below_drewN)⟩⟩ | exact ⟨by simpa using m1, by simpa using m2, ⟨by repeat (first | (with_reducible exact HB6.out) | apply below_drew | apply pw_below_drewN)⟩⟩) (first | (go_at_call 39; refine (labels_zzTypeOf.calls _ _ _ hkd).mono ?_; rintro e w4 ⟨rfl, ⟨q4, rfl⟩⟩) | (go_at_call 40; refine (Tryd.Builder_String_any w1.heap.size w1.heap.size acc _ (by repeat (first | (with_reducible exact HE.out.bld) | apply IsB.drewC | apply IsB.drewNC)) (by simpa using HBS.out)).mono ?_; rintro e w5 ⟨rfl, hB5⟩; have m1 : w5.cell? ⟨g, 1, none⟩ = some (.string p1) := (hB5.cell (by exact HGB.out)).trans (by simpa using k1); have m2 : w5.cell? ⟨g, 2, none⟩ = some (.string p2) := (hB5.cell (by exact HGB.out)).trans (by simpa using k2); have HB6 : Aside0 (Below w.heap.size w w5) := ⟨Below.trans (by repeat (first | (with_reducible exact HBW.out) | apply below_drew | apply pw_below_drewN)) (hB5.mono hlow)⟩; clear hB5) | (go_at_call 38; refine (newMatcher_calls _ _ _ _).mono ?_; rintro e w6 ⟨g6, rfl, hh6, hb6⟩; have hz6 := hb6.size; have r1 : w6.cell? ⟨g, 1, none⟩ = some (.string p1) := (hb6.cell (World.block_lt_of_cell? _ _ (by assumption))).trans (by assumption); have r2 : w6.cell? ⟨g, 2, none⟩ = some (.string p2) := (hb6.cell (World.block_lt_of_cell? _ _ (by assumption))).trans (by assumption); have HB7 : Aside0 (Below w.heap.size w w6) := ⟨Below.trans (Aside0.out (by assumption)) (hb6.mono (Aside0.out (p := Below w.heap.size w _) (by assumption)).size)⟩; have HM6 := Aside0.mk hh6; clear hh6 hb6 hz6))
            go_wp2
            go_ret2
            rw [HTA.out]
            exact ⟨_, _, rfl, HB7.out, rfl, g6, rfl, HM6.out⟩
          · have HT0 : Aside0 (tot = none) := ⟨HA.out⟩
            go_wp2_with (go_at_call 33; refine (errNew_calls _ _).mono ?_; rintro e w9 ⟨g9, rfl, hb9⟩; have HB9 := Aside0.mk (below_step HE.out.bel hb9); clear hb9)
            go_ret2
            rw [HT0.out]
            exact ⟨_, _, rfl, HB9.out, ⟨_, rfl⟩⟩
    · clear hx
      go_enter Tryd.func18, Tryd.ntmps18
      go_wp2_with (first | (go_at_call 32; refine (labels_zzMatcherParts.calls k s _ _ HP.out).mono ?_; rintro e w1 ⟨v, rfl, hR, hb⟩; obtain ⟨g, c, e4, hgl, hPA⟩ := PartsAt.of_R hR; subst e4; obtain ⟨c0, c1, c2, c3⟩ := hPA.cell; have HB1 := Aside0.mk hb; have HP1 := Aside0.mk hPA; clear hR hb hPA) | (go_at_call 34; refine (strings_CutPrefix.calls _ ⟨#[34]⟩ _ _ _ HC.out).mono ?_; rintro e w2 ⟨rfl, hd⟩; have HB2 := Aside0.mk (below_step (below_alloc HB1.out _) hd.below); have HP2 := Aside0.mk ((HP1.out.below (below_alloc (Below.refl _ _) _)).below hd.below); have HB11 := Aside0.mk hd.below; clear hd) | (go_at_call 35; refine (utf8_ValidString.calls raw _ _ (TBu.below HT.out HB2.out) (if_pos (by omega))).mono ?_; rintro e w3 ⟨rfl, hb3⟩; rw [HV.out]; have HB3 := Aside0.mk (below_step HB2.out hb3); have HP3 := Aside0.mk (HP2.out.below hb3); have HB12 := Aside0.mk (HB11.out.trans (hb3.mono HB11.out.size)); clear hb3))
      have HS : Aside0 (ClAt raw tot g w1.heap.size w3.heap.size p0 p1 p2 p3 w (w3.iter raw 0) false true [] 0) := ⟨by
        have hz := HB1.out.size
        have hF := fresh_isBuilder 65 5 w1
        have hlt : w1.heap.size < (w1.alloc (.cells #[.pointer none, .slice none 0 0] 65)).heap.size := by simp
        have hz2 := HB12.out.size
        have hF3 : IsB w1.heap.size w1.heap.size [] w3 := IsB.belowC hF HB12.out
        refine ⟨Nat.zero_le _, HTO.out, HV.out, (fun e => by cases e), hF3.belowC (below_alloc (Below.refl _ _) _), hz, World.iter_heap w3 raw 0, HP3.out.below (below_alloc (Below.refl _ _) _), ?_, ?_, ?_, below_alloc HB3.out _, Nat.zero_le _⟩
        · omega
        · have hg := HP1.out
          obtain ⟨cur, hh, _⟩ := hg
          have := (Array.getElem?_eq_some_iff.1 hh).1
          omega
        · have := HB3.out.size
          omega⟩
      go_loopw [7, 8] (fun v7 v8 wr => ∃ (esc ex : Bool) (acc : List UInt8) (pos : Nat), v7 = .bool esc ∧ v8 = .bool ex ∧ Aside0 (ClAt raw tot g w1.heap.size w3.heap.size p0 p1 p2 p3 w wr esc ex acc pos)) (fun _ _ w' => raw.size - w'.iterPos w3.heap.size)
      case atStart => exact ⟨_, _, _, _, rfl, rfl, HS⟩
      case round =>
        obtain ⟨esc, ex, acc, pos, rfl, rfl, HE⟩ := hrel
        have hm : wr.iterPos w3.heap.size = pos := by simp [World.iterPos, HE.out.it]
        by_cases hp : pos < raw.size
        · have hnx0 := fun ty => Lib.run_next_any_at (P := Tryd.prog) wr w3.heap.size raw pos ty HE.out.it hp
          have HM : Aside0 (∀ (w4 : World) (e' x' : Bool) (a' : List UInt8) (q : Nat), pos < q → ClAt raw tot g w1.heap.size w3.heap.size p0 p1 p2 p3 w w4 e' x' a' q → raw.size - w4.iterPos w3.heap.size < raw.size - wr.iterPos w3.heap.size) := ⟨fun w4 e' x' a' q hq h => by
            have h3 : w4.iterPos w3.heap.size = q := by simp [World.iterPos, h.it]
            rw [h3, hm]
            omega⟩
          have hlen := HE.out.len
          by_cases hb : (raw[pos]'hp).toNat < 128
          · have hnx := hnx0
            simp only [decode_ascii raw pos hp hb] at hnx
            have HI := Aside0.mk (HE.out.next (pos + 1))
            have HALL : Aside0 (valF esc ex ((raw[pos]'hp) :: raw.data.toList.drop (pos + 1)) acc = tot) := ⟨by rw [← drop_cons raw pos hp]; exact HE.out.all⟩
            have HVN := Aside0.mk (step_ascii raw pos hp hb HE.out.val)
            have HEN := Aside0.mk (enc_one (raw[pos]'hp) hb)
            have HBS : Aside0 (w1.heap.size ≤ (wr.iterAt w3.heap.size raw (pos + 1)).heap.size) := ⟨Nat.le_of_lt (isB_ltC HI.out.bld)⟩
            generalize (raw[pos]'hp) = u at *
            clear hnx0 hm HE HTO
            have hu0 : (0 : Int) ≤ (u.toNat : Int) := by omega
            cases esc
            · by_cases h92 : u = 92
              · subst h92
                by_cases hl : pos + 1 < raw.size
                · have hd : decide ((pos : Int) < (raw.size : Int) - 1) = true := decide_eq_true (by omega)
                  have HX : Aside0 (valF true ex (raw.data.toList.drop (pos + 1)) acc = tot) := ⟨by have := HALL.out; rw [valF, if_pos rfl, if_pos (by rw [drop_cons raw (pos + 1) hl]; simp)] at this; exact this⟩
                  have HN := Aside0.mk (HI.out.done (esc := true) (ex := ex) (by omega) HX.out HVN.out (fun _ => hl) (by omega))
                  go_wp2
                  go_roundw
                  case rel => exact ⟨_, _, _, _, rfl, rfl, HN⟩
                  case measure => exact HM.out _ _ _ _ _ (Nat.lt_succ_self _) HN.out
                · have hd : decide ((pos : Int) < (raw.size : Int) - 1) = false := decide_eq_false (by omega)
                  have HX : Aside0 (valF false ex (raw.data.toList.drop (pos + 1)) (acc ++ [92]) = tot) := ⟨by have := HALL.out; rw [valF, if_pos rfl, if_neg (by rw [List.drop_eq_nil_of_le (by rw [Array.length_toList]; show raw.size ≤ pos + 1; omega)]; simp)] at this; exact this⟩
                  go_wp2_with (go_at_call 36; refine (writeByte_calls _ _ _ 92 _ HI.out.bld (by omega) HBS.out).mono ?_; rintro e w4 ⟨rfl, hI, hB, hK⟩; have HN := Aside0.mk ((HI.out.write hI hB hK).done (esc := false) (ex := ex) (by omega) HX.out HVN.out (fun e => by cases e) (by rw [List.length_append]; simp; omega)); clear hI hB hK)
                  go_roundw
                  case rel => exact ⟨_, _, _, _, rfl, rfl, HN⟩
                  case measure => exact HM.out _ _ _ _ _ (Nat.lt_succ_self _) HN.out
              · by_cases h34 : u = 34
                · subst h34
                  cases ex
                  · have HT0 : Aside0 (tot = none) := ⟨by have := HALL.out; rw [valF, if_neg (by decide), if_pos rfl, if_pos (Or.inl rfl)] at this; exact this.symm⟩
                    go_wp2_with (go_at_call 33; refine (errNew_calls _ _).mono ?_; rintro e w9 ⟨g9, rfl, hb9⟩; have HB9 := Aside0.mk (below_step HI.out.bel hb9); clear hb9)
                    go_ret2
                    rw [HT0.out]
                    exact ⟨_, _, rfl, HB9.out, ⟨_, rfl⟩⟩
                  · by_cases hl : pos + 1 < raw.size
                    · have hd : decide ((pos : Int) < (raw.size : Int) - 1) = true := decide_eq_true (by omega)
                      have HT0 : Aside0 (tot = none) := ⟨by have := HALL.out; rw [valF, if_neg (by decide), if_pos rfl, if_pos (Or.inr (by rw [drop_cons raw (pos + 1) hl]; simp))] at this; exact this.symm⟩
                      go_wp2_with (go_at_call 33; refine (errNew_calls _ _).mono ?_; rintro e w9 ⟨g9, rfl, hb9⟩; have HB9 := Aside0.mk (below_step HI.out.bel hb9); clear hb9)
                      go_ret2
                      rw [HT0.out]
                      exact ⟨_, _, rfl, HB9.out, ⟨_, rfl⟩⟩
                    · have hd : decide ((pos : Int) < (raw.size : Int) - 1) = false := decide_eq_false (by omega)
                      have HX : Aside0 (valF false false (raw.data.toList.drop (pos + 1)) acc = tot) := ⟨by have := HALL.out; rw [valF, if_neg (by decide), if_pos rfl, if_neg (by rw [List.drop_eq_nil_of_le (by rw [Array.length_toList]; show raw.size ≤ pos + 1; omega)]; simp)] at this; exact this⟩
                      have HN := Aside0.mk (HI.out.done (esc := false) (ex := false) (by omega) HX.out HVN.out (fun e => by cases e) (by omega))
                      go_wp2
                      go_roundw
                      case rel => exact ⟨_, _, _, _, rfl, rfl, HN⟩
                      case measure => exact HM.out _ _ _ _ _ (Nat.lt_succ_self _) HN.out
                · have n92 : (u.toNat : Int) ≠ 92 := fun e => h92 (UInt8.toNat_inj.1 (by show u.toNat = 92; omega))
                  have n34 : (u.toNat : Int) ≠ 34 := fun e => h34 (UInt8.toNat_inj.1 (by show u.toNat = 34; omega))
                  have e92 : ((u.toNat : Int) == 92) = false := beq_eq_false_iff_ne.2 n92
                  have e34 : ((u.toNat : Int) == 34) = false := beq_eq_false_iff_ne.2 n34
                  have HX : Aside0 (valF false ex (raw.data.toList.drop (pos + 1)) (acc ++ [u]) = tot) := ⟨by have := HALL.out; rw [valF, if_neg h92, if_neg h34] at this; exact this⟩
                  clear n92 n34
                  go_wp2_with (go_at_call 37; refine (writeRuneA_calls _ _ _ (u.toNat : Int) (by omega) (by omega) _ HI.out.bld (by omega) HBS.out).mono ?_; rintro e w4 ⟨⟨n9, rfl⟩, hI, hB, hK⟩; rw [HEN.out] at hI; have HN := Aside0.mk ((HI.out.write hI hB hK).done (esc := false) (ex := ex) (by omega) HX.out HVN.out (fun e => by cases e) (by rw [List.length_append]; simp; omega)); clear hI hB hK)
                  go_roundw
                  case rel => exact ⟨_, _, _, _, rfl, rfl, HN⟩
                  case measure => exact HM.out _ _ _ _ _ (Nat.lt_succ_self _) HN.out
            · by_cases h110 : u = 110
              · subst h110
                have HX : Aside0 (valF false ex (raw.data.toList.drop (pos + 1)) (acc ++ [10]) = tot) := ⟨by have := HALL.out; rw [valF, if_pos rfl] at this; exact this⟩
                go_wp2_with (first | (go_at_call 36; refine (writeByte_calls _ _ _ 10 _ HI.out.bld (by omega) HBS.out).mono ?_; rintro e w4 ⟨rfl, hI, hB, hK⟩; have HN := Aside0.mk ((HI.out.write hI hB hK).done (esc := false) (ex := ex) (by omega) HX.out HVN.out (fun e => by cases e) (by rw [List.length_append]; simp; omega)); clear hI hB hK))
                go_roundw
                case rel => exact ⟨_, _, _, _, rfl, rfl, HN⟩
                case measure => exact HM.out _ _ _ _ _ (Nat.lt_succ_self _) HN.out
              · have n110 : (u.toNat : Int) ≠ 110 := fun e => h110 (UInt8.toNat_inj.1 (by show u.toNat = 110; omega))
                have e110 : ((u.toNat : Int) == 110) = false := beq_eq_false_iff_ne.2 n110
                by_cases h2 : u = 34 ∨ u = 92
                · have HX : Aside0 (valF false ex (raw.data.toList.drop (pos + 1)) (acc ++ [u]) = tot) := ⟨by have := HALL.out; rw [valF, if_neg h110, if_pos h2] at this; exact this⟩
                  have e2 : ((u.toNat : Int) == 34) = true ∨ (((u.toNat : Int) == 34) = false ∧ ((u.toNat : Int) == 92) = true) := by
                    rcases h2 with h | h
                    · exact Or.inl (by rw [h]; rfl)
                    · exact Or.inr ⟨by rw [h]; rfl, by rw [h]; rfl⟩
                  clear n110 h2 h110
                  rcases e2 with e34 | ⟨e34, e92⟩
                  all_goals
                    go_wp2_with (go_at_call 37; refine (writeRuneA_calls _ _ _ (u.toNat : Int) (by omega) (by omega) _ HI.out.bld (by omega) HBS.out).mono ?_; rintro e w4 ⟨⟨n9, rfl⟩, hI, hB, hK⟩; rw [HEN.out] at hI; have HN := Aside0.mk ((HI.out.write hI hB hK).done (esc := false) (ex := ex) (by omega) HX.out HVN.out (fun e => by cases e) (by rw [List.length_append]; simp; omega)); clear hI hB hK)
                    go_roundw
                    case rel => exact ⟨_, _, _, _, rfl, rfl, HN⟩
                    case measure => exact HM.out _ _ _ _ _ (Nat.lt_succ_self _) HN.out
                · have e34 : ((u.toNat : Int) == 34) = false := beq_eq_false_iff_ne.2 (fun e => h2 (Or.inl (UInt8.toNat_inj.1 (by show u.toNat = 34; omega))))
                  have e92 : ((u.toNat : Int) == 92) = false := beq_eq_false_iff_ne.2 (fun e => h2 (Or.inr (UInt8.toNat_inj.1 (by show u.toNat = 92; omega))))
                  have HX : Aside0 (valF false ex (raw.data.toList.drop (pos + 1)) (acc ++ [92] ++ [u]) = tot) := ⟨by have := HALL.out; rw [valF, if_neg h110, if_neg h2] at this; rw [List.append_assoc]; exact this⟩
                  clear n110 h2 h110
                  go_wp2_with (first | (go_at_call 36; refine (writeByte_calls _ _ _ 92 _ HI.out.bld (by omega) HBS.out).mono ?_; rintro e w4 ⟨rfl, hI, hB, hK⟩; have HI2 := Aside0.mk (HI.out.write hI hB hK); have HBS2 : Aside0 (w1.heap.size ≤ w4.heap.size) := ⟨Nat.le_of_lt (isB_ltC HI2.out.bld)⟩; clear hI hB hK) | (go_at_call 37; refine (writeRuneA_calls _ _ _ (u.toNat : Int) (by omega) (by omega) _ HI2.out.bld (by rw [List.length_append]; simp; omega) HBS2.out).mono ?_; rintro e w5 ⟨⟨n9, rfl⟩, hI, hB, hK⟩; rw [HEN.out] at hI; have HN := Aside0.mk ((HI2.out.write hI hB hK).done (esc := false) (ex := ex) (by omega) HX.out HVN.out (fun e => by cases e) (by rw [List.length_append, List.length_append]; simp; omega)); clear hI hB hK))
                  go_roundw
                  case rel => exact ⟨_, _, _, _, rfl, rfl, HN⟩
                  case measure => exact HM.out _ _ _ _ _ (Nat.lt_succ_self _) HN.out
          · have hb8 : 128 ≤ (raw[pos]'hp).toNat := by omega
            have hbig := (decode_high raw pos hp hb8).1
            have hwd := (decode_high raw pos hp hb8).2
            have hle9 := decode_le raw pos
            obtain ⟨q1, q2, q3, q4, q5⟩ := step_high raw pos hp hb8 HE.out.val ex acc
            have HI := Aside0.mk (HE.out.next (pos + (Utf8.decode raw pos).2))
            have HBS : Aside0 (w1.heap.size ≤ (wr.iterAt w3.heap.size raw (pos + (Utf8.decode raw pos).2)).heap.size) := ⟨Nat.le_of_lt (isB_ltC HI.out.bld)⟩
            have HQ := Aside0.mk (And.intro q1 (And.intro q2 (And.intro q3 (And.intro q4 q5))))
            have HALL := Aside0.mk HE.out.all
            have hnx := hnx0
            clear q2 q4 q5 hnx0 hm HE HTO hb hb8
            generalize Utf8.decode raw pos = d at *
            obtain ⟨c, wd⟩ := d
            simp only at hbig hwd hle9 q1 q3 hnx
            have e110 : ((c : Int) == 110) = false := beq_eq_false_iff_ne.2 (by omega)
            have e92 : ((c : Int) == 92) = false := beq_eq_false_iff_ne.2 (by omega)
            have e34 : ((c : Int) == 34) = false := beq_eq_false_iff_ne.2 (by omega)
            have hl9 := HQ.out.2.2.1
            have hwd4 : wd ≤ 4 := by rw [← q3, ← Lib.runeCells_length]; exact (Lib.runeCells_le _).2
            clear q3 hl9
            cases esc
            · have HX : Aside0 (valF false ex (raw.data.toList.drop (pos + wd)) (acc ++ Lib.encodeRune (c : Int)) = tot) := ⟨by rw [← HALL.out]; exact HQ.out.2.2.2.1.symm⟩
              go_wp2_with (go_at_call 37; refine (writeRuneA_calls _ _ _ (c : Int) (by omega) (by omega) _ HI.out.bld (by omega) HBS.out).mono ?_; rintro e w4 ⟨⟨n9, rfl⟩, hI, hB, hK⟩; have HN := Aside0.mk ((HI.out.write hI hB hK).done (esc := false) (ex := ex) (by omega) HX.out HQ.out.2.1 (fun e => by cases e) (by rw [List.length_append, HQ.out.2.2.1]; simp; omega)); clear hI hB hK)
              go_roundw
              case rel => exact ⟨_, _, _, _, rfl, rfl, HN⟩
              case measure => exact HM.out _ _ _ _ _ (by omega) HN.out
            · have HX : Aside0 (valF false ex (raw.data.toList.drop (pos + wd)) (acc ++ [92] ++ Lib.encodeRune (c : Int)) = tot) := ⟨by rw [← HALL.out]; exact HQ.out.2.2.2.2.symm⟩
              go_wp2_with (first | (go_at_call 36; refine (writeByte_calls _ _ _ 92 _ HI.out.bld (by omega) HBS.out).mono ?_; rintro e w4 ⟨rfl, hI, hB, hK⟩; have HI2 := Aside0.mk (HI.out.write hI hB hK); have HBS2 : Aside0 (w1.heap.size ≤ w4.heap.size) := ⟨Nat.le_of_lt (isB_ltC HI2.out.bld)⟩; clear hI hB hK) | (go_at_call 37; refine (writeRuneA_calls _ _ _ (c : Int) (by omega) (by omega) _ HI2.out.bld (by rw [List.length_append]; simp; omega) HBS2.out).mono ?_; rintro e w5 ⟨⟨n9, rfl⟩, hI, hB, hK⟩; have HN := Aside0.mk ((HI2.out.write hI hB hK).done (esc := false) (ex := ex) (by omega) HX.out HQ.out.2.1 (fun e => by cases e) (by rw [List.length_append, List.length_append, HQ.out.2.2.1]; simp; omega)); clear hI hB hK))
              go_roundw
              case rel => exact ⟨_, _, _, _, rfl, rfl, HN⟩
              case measure => exact HM.out _ _ _ _ _ (by omega) HN.out
        · have hnx := fun ty => Lib.run_next_end_at (P := Tryd.prog) wr w3.heap.size raw pos ty HE.out.it hp
          have HA := Aside0.mk (HE.out.ends hp)
          clear HTO hm hp
          cases ex
          · obtain ⟨k0, k1, k2, k3⟩ := PartsAt.cell HE.out.parts
            go_wp2
            have HGB : Aside0 (g < w1.heap.size) := ⟨by obtain ⟨cur, hh, _⟩ := HP1.out; exact (Array.getElem?_eq_some_iff.1 hh).1⟩
            have HBS : Aside0 (w1.heap.size ≤ wr.heap.size) := ⟨Nat.le_of_lt (isB_ltC HE.out.bld)⟩
            have hlow : w.heap.size ≤ w1.heap.size := HE.out.lowb
            have HBW := Aside0.mk HE.out.bel
            have HTA : Aside0 (tot = some acc) := ⟨HA.out⟩
            go_region_held3 (fun w' => w'.cell? ⟨g, 1, none⟩ = some (.string p1) ∧ w'.cell? ⟨g, 2, none⟩ = some (.string p2) ∧ Aside0 (Below w.heap.size w w')) (first | (with_reducible exact ⟨m1, m2, HB6⟩) | (with_reducible exact ⟨r1, r2, HB7⟩) | exact ⟨by simpa using k1, by simpa using k2, HBW⟩ | exact ⟨by simpa using k1, by simpa using k2, ⟨by repeat (first | (with_reducible exact HBW.out) | apply below_drew | apply pw_below_drewN)⟩⟩ | exact ⟨by simpa using m1, by simpa using m2, ⟨by repeat (first | (with_reducible exact HB6.out) | apply below_drew | apply pw_below_drewN)⟩⟩) (first | (go_at_call 39; refine (labels_zzTypeOf.calls _ _ _ hkd).mono ?_; rintro e w4 ⟨rfl, ⟨q4, rfl⟩⟩) | (go_at_call 40; refine (Tryd.Builder_String_any w1.heap.size w1.heap.size acc _ (by repeat (first | (with_reducible exact HE.out.bld) | apply IsB.drewC | apply IsB.drewNC)) (by simpa using HBS.out)).mono ?_; rintro e w5 ⟨rfl, hB5⟩; have m1 : w5.cell? ⟨g, 1, none⟩ = some (.string p1) := (hB5.cell (by exact HGB.out)).trans (by simpa using k1); have m2 : w5.cell? ⟨g, 2, none⟩ = some (.string p2) := (hB5.cell (by exact HGB.out)).trans (by simpa using k2); have HB6 : Aside0 (Below w.heap.size w w5) := ⟨Below.trans (by repeat (first | (with_reducible exact HBW.out) | apply below_drew | apply pw_below_drewN)) (hB5.mono hlow)⟩; clear hB5) | (go_at_call 38; refine (newMatcher_calls _ _ _ _).mono ?_; rintro e w6 ⟨g6, rfl, hh6, hb6⟩; have hz6 := hb6.size; have r1 : w6.cell? ⟨g, 1, none⟩ = some (.string p1) := (hb6.cell (World.block_lt_of_cell? _ _ (by assumption))).trans (by assumption); have r2 : w6.cell? ⟨g, 2, none⟩ = some (.string p2) := (hb6.cell (World.block_lt_of_cell? _ _ (by assumption))).trans (by assumption); have HB7 : Aside0 (Below w.heap.size w w6) := ⟨Below.trans (Aside0.out (by assumption)) (hb6.mono (Aside0.out (p := Below w.heap.size w _) (by assumption)).size)⟩; have HM6 := Aside0.mk hh6; clear hh6 hb6 hz6))
            go_wp2
            go_ret2
            rw [HTA.out]
            exact ⟨_, _, rfl, HB7.out, rfl, g6, rfl, HM6.out⟩
          · have HT0 : Aside0 (tot = none) := ⟨HA.out⟩
            go_wp2_with (go_at_call 33; refine (errNew_calls _ _).mono ?_; rintro e w9 ⟨g9, rfl, hb9⟩; have HB9 := Aside0.mk (below_step HE.out.bel hb9); clear hb9)
            go_ret2
            rw [HT0.out]
            exact ⟨_, _, rfl, HB9.out, ⟨_, rfl⟩⟩
end Go.Proofs.YtkngnoipipnioaaDoor.Q
