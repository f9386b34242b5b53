/- What strconv.index, contains and unhex return. No condition. strconv.UnquoteChar at a double quote. Condition: the library's tables as it lays them; strconv.ErrSyntax holds an error. strconv.UnquoteChar at escapes of digits. Condition: strconv.ErrSyntax holds an error. strconv.UnquoteChar, at every text but an empty one and one that begins with the quote. Condition: the library's tables as it lays them; strconv.ErrSyntax holds an error. unicode/utf8.ValidString by the shelf's contract. Condition: the two tables of unicode/utf8 as the library lays them. Contracts of the library's functions, laid by the kit's lay-shelf at this seat's program. strconv.unquote at a text that begins with a double quote. Condition: the library's tables as it lays them; strconv.ErrSyntax holds an error. What a token says: strconv.Unquote at a text that begins with a double quote, and the token's own unquote. Condition: the library's tables as it lays them; strconv.ErrSyntax holds an error. -/
import Derived.Test.YtnnhehlieakedaaGreatDoorHParBM
import Derived.Lib.Bytealg
import Derived.Test.YtnnhehlieakedaaGreatDoorHParKM
import Derived.Lib.QuoteBits
import Derived.Test.YtnnhehlieakedaaGreatDoorHTabM
import Derived.Ground.NamesProg
import Derived.Shelf.Unicode.ValidAny
import Derived.Shelf.Small.Utf8
import Derived.Shelf.Small.Bits
import Derived.Shelf.Utf8.AppendRunePlain
import Derived.Shelf.Strconv.Itoa0
import Derived.Shelf.Unicode.Latin
import Derived.Shelf.Unicode.DecodeSlow
import Derived.Shelf.Unicode.DecodeAny
import Derived.Shelf.Unicode.Is16White
import Derived.Shelf.Unicode.IsSpaceAny
import Derived.Shelf.Unicode.Is16Any
import Derived.Shelf.Unicode.Is32Any
import Derived.Shelf.Unicode.ExclAny
import Derived.Test.YtnnhehlieakedaaGreatDoorProg
import Derived.Lib.RuneBytes
namespace Go.Proofs.YtnnhehlieakedaaGreatDoor.Q
open Go.RowKit Go.Lib Go.Proofs.YtnnhehlieakedaaGreatDoorW.PrintWords Go.Proofs.YtnnhehlieakedaaGreatDoorW.PrintLast Go.Proofs.YtnnhehlieakedaaGreatDoorW.PrintMore
attribute [local go_sem] max2_int min2_int max_two min_two max_three min_three max_four min_four
set_option maxHeartbeats 1000000 in
theorem strIndex_calls (s : ByteArray) (c : Int) (w : World) :
    Calls Tryz.prog 158 #[.string s, .int .u8 c] w fun e w' => e = .returned (.int .i64 (Lib.indexByte s.data.toList c.toNat.toUInt8)) ∧ w' = w := by
  have hx : ∀ w, (callFunc 161 #[.string s, .int .u8 c]).run Tryz.prog w = .ok (.value (.int .i64 (Lib.indexByte s.data.toList c.toNat.toUInt8))) w := fun w => by
    rw [run_callFunc_extern Tryz.func161 (by kernel_rfl) (by kernel_rfl) (by kernel_rfl) (e := Extern.BytealgIndexByte.indexByte) (by kernel_rfl), Lib.run_indexByteString]
    rfl
  go_enter Tryz.func158, Tryz.ntmps158
  go_wp2
  go_ret
  exact ⟨rfl, rfl⟩
theorem idxB_is (l : List UInt8) (c : UInt8) : Lib.indexByte l c = if l.contains c then ((l.idxOf c : Nat) : Int) else -1 := by
  induction l with
  | nil => rfl
  | cons b l ih =>
    unfold Lib.indexByte
    rw [ih]
    by_cases hb : b = c
    · subst hb; simp
    · have h1 : (b == c) = false := beq_eq_false_iff_ne.2 hb
      have h2 : ¬ c = b := fun e => hb e.symm
      rw [h1, List.idxOf_cons, h1]
      by_cases hc : l.contains c = true
      · have h3 : (b :: l).contains c = true := by simp only [List.contains_cons, hc, Bool.or_true]
        rw [if_pos hc, if_pos h3]
        have h4 : (((l.idxOf c : Nat) : Int) == -1) = false := beq_eq_false_iff_ne.2 (by omega)
        rw [h4]
        simp
      · have h3 : ¬ (b :: l).contains c = true := by
          rw [List.contains_cons]
          simp only [Bool.or_eq_true, not_or]
          exact ⟨by simpa using h2, hc⟩
        rw [if_neg hc, if_neg h3]
        rfl
def inB (l : List UInt8) (c : UInt8) : Bool := l.contains c
theorem strContains_calls (l : List UInt8) (c : UInt8) (w : World) :
    Calls Tryz.prog 159 #[.string (mk l), .int .u8 (c.toNat : Int)] w fun e w' => e = .returned (.bool (inB l c)) ∧ w' = w := by
  go_enter Tryz.func159, Tryz.ntmps159
  go_wp2_with fail
  refine (strIndex_calls (mk l) c.toNat _).mono ?_
  rintro e w1 ⟨rfl, rfl⟩
  have e1 : ((c.toNat : Int)).toNat.toUInt8 = c := by simp
  rw [e1, mk_data, idxB_is]
  obtain ⟨r, hr⟩ : ∃ r, inB l c = r := ⟨_, rfl⟩
  have HR := Aside0.mk hr
  have hr2 : l.contains c = r := hr
  rw [hr2]
  clear hr hr2
  cases r with
  | true =>
    have hne : (((l.idxOf c : Nat) : Int) != -1) = true := by simp
    rw [if_pos rfl]
    go_wp2
    go_ret
    exact ⟨by rw [HR.out]; rfl, rfl⟩
  | false =>
    rw [if_neg (by decide)]
    go_wp2
    go_ret
    exact ⟨by rw [HR.out]; rfl, rfl⟩
theorem unhex_calls (u : UInt8) (w : World) :
    Calls Tryz.prog 162 #[.int .u8 (u.toNat : Int)] w fun e w' => e = .returned (.tuple #[.int .i32 ((hexV u).getD 0 : Nat), .bool (hexV u).isSome]) ∧ w' = w := by
  have hu := UInt8.toNat_lt u
  have HX : Aside0 (hexV u = if 48 ≤ u.toNat ∧ u.toNat ≤ 57 then some (u.toNat - 48) else if 97 ≤ u.toNat ∧ u.toNat ≤ 102 then some (u.toNat - 87) else if 65 ≤ u.toNat ∧ u.toNat ≤ 70 then some (u.toNat - 55) else none) := ⟨rfl⟩
  generalize hexV u = o at *
  generalize u.toNat = n at *
  by_cases h1 : 48 ≤ n
  · by_cases h2 : n ≤ 57
    · have a1 : ((48 : Int) ≤ (n : Int)) = True := eq_true (by omega)
      have a2 : ((n : Int) ≤ 57) = True := eq_true (by omega)
      rw [if_pos ⟨h1, h2⟩] at HX
      rw [HX.out]
      go_enter Tryz.func162, Tryz.ntmps162
      go_wp2
      go_ret2
      exact ⟨by simp; omega, rfl⟩
    · have a1 : ((48 : Int) ≤ (n : Int)) = True := eq_true (by omega)
      have a2 : ((n : Int) ≤ 57) = False := eq_false (by omega)
      rw [if_neg (by omega)] at HX
      by_cases h3 : 97 ≤ n
      · have a3 : ((97 : Int) ≤ (n : Int)) = True := eq_true (by omega)
        by_cases h4 : n ≤ 102
        · have a4 : ((n : Int) ≤ 102) = True := eq_true (by omega)
          rw [if_pos ⟨h3, h4⟩] at HX
          rw [HX.out]
          go_enter Tryz.func162, Tryz.ntmps162
          go_wp2
          go_ret2
          exact ⟨by simp; omega, rfl⟩
        · have a4 : ((n : Int) ≤ 102) = False := eq_false (by omega)
          have a5 : ((65 : Int) ≤ (n : Int)) = True := eq_true (by omega)
          have a6 : ((n : Int) ≤ 70) = False := eq_false (by omega)
          rw [if_neg (by omega), if_neg (by omega)] at HX
          rw [HX.out]
          go_enter Tryz.func162, Tryz.ntmps162
          go_wp2
          go_ret2
          exact ⟨rfl, rfl⟩
      · have a3 : ((97 : Int) ≤ (n : Int)) = False := eq_false (by omega)
        rw [if_neg (by omega)] at HX
        by_cases h5 : 65 ≤ n
        · have a5 : ((65 : Int) ≤ (n : Int)) = True := eq_true (by omega)
          by_cases h6 : n ≤ 70
          · have a6 : ((n : Int) ≤ 70) = True := eq_true (by omega)
            rw [if_pos ⟨h5, h6⟩] at HX
            rw [HX.out]
            go_enter Tryz.func162, Tryz.ntmps162
            go_wp2
            go_ret2
            exact ⟨by simp; omega, rfl⟩
          · have a6 : ((n : Int) ≤ 70) = False := eq_false (by omega)
            rw [if_neg (by omega)] at HX
            rw [HX.out]
            go_enter Tryz.func162, Tryz.ntmps162
            go_wp2
            go_ret2
            exact ⟨rfl, rfl⟩
        · have a5 : ((65 : Int) ≤ (n : Int)) = False := eq_false (by omega)
          rw [if_neg (by omega)] at HX
          rw [HX.out]
          go_enter Tryz.func162, Tryz.ntmps162
          go_wp2
          go_ret2
          exact ⟨rfl, rfl⟩
  · have a1 : ((48 : Int) ≤ (n : Int)) = False := eq_false (by omega)
    have a3 : ((97 : Int) ≤ (n : Int)) = False := eq_false (by omega)
    have a5 : ((65 : Int) ≤ (n : Int)) = False := eq_false (by omega)
    rw [if_neg (by omega), if_neg (by omega), if_neg (by omega)] at HX
    rw [HX.out]
    go_enter Tryz.func162, Tryz.ntmps162
    go_wp2
    go_ret2
    exact ⟨rfl, rfl⟩
theorem validRune_calls (r : Int) (h0 : -2147483648 ≤ r) (h1 : r ≤ 2147483647) (w : World) :
    Calls Tryz.prog 131 #[.int .i32 r] w fun e w' => e = .returned (.bool (decide (0 ≤ r) && okRune r.toNat)) ∧ w' = w := by
  have HX : Aside0 ((decide (0 ≤ r) && okRune r.toNat) = decide ((0 ≤ r ∧ r < 55296) ∨ (57343 < r ∧ r ≤ 1114111))) := ⟨by
    unfold okRune
    rw [← Bool.decide_and]
    apply decide_eq_decide.2
    omega⟩
  rw [HX.out]
  by_cases c1 : 0 ≤ r
  · by_cases c2 : r < 55296
    · have e : decide ((0 ≤ r ∧ r < 55296) ∨ (57343 < r ∧ r ≤ 1114111)) = true := decide_eq_true (.inl ⟨c1, c2⟩)
      rw [e]
      clear HX e
      go_enter Tryz.func131, Tryz.ntmps131
      go_wp2
      go_ret
      exact ⟨rfl, rfl⟩
    · by_cases c3 : 57343 < r
      · by_cases c4 : r ≤ 1114111
        · have e : decide ((0 ≤ r ∧ r < 55296) ∨ (57343 < r ∧ r ≤ 1114111)) = true := decide_eq_true (.inr ⟨c3, c4⟩)
          rw [e]
          clear HX e
          go_enter Tryz.func131, Tryz.ntmps131
          go_wp2
          go_ret
          exact ⟨rfl, rfl⟩
        · have e : decide ((0 ≤ r ∧ r < 55296) ∨ (57343 < r ∧ r ≤ 1114111)) = false := decide_eq_false (by omega)
          rw [e]
          clear HX e
          go_enter Tryz.func131, Tryz.ntmps131
          go_wp2
          go_ret
          exact ⟨rfl, rfl⟩
      · have e : decide ((0 ≤ r ∧ r < 55296) ∨ (57343 < r ∧ r ≤ 1114111)) = false := decide_eq_false (by omega)
        rw [e]
        clear HX e
        go_enter Tryz.func131, Tryz.ntmps131
        go_wp2
        go_ret
        exact ⟨rfl, rfl⟩
  · have c3 : ¬ 57343 < r := by omega
    have e : decide ((0 ≤ r ∧ r < 55296) ∨ (57343 < r ∧ r ≤ 1114111)) = false := decide_eq_false (by omega)
    rw [e]
    clear HX e
    go_enter Tryz.func131, Tryz.ntmps131
    go_wp2
    go_ret
    exact ⟨rfl, rfl⟩
end Go.Proofs.YtnnhehlieakedaaGreatDoor.Q
namespace Go.Proofs.YtnnhehlieakedaaGreatDoor.Q
open Go.RowKit Go.Lib Go.Proofs.YtnnhehlieakedaaGreatDoorW.PrintWords Go.Proofs.YtnnhehlieakedaaGreatDoorW.PrintLast Go.Proofs.YtnnhehlieakedaaGreatDoorW.PrintMore
attribute [local go_sem] max2_int min2_int max_two min_two max_three min_three max_four min_four
/-- What UnquoteChar hands back. -/
def UqP (w w' : World) (o : Option (Nat × Bool × List UInt8)) (e : Ending) : Prop := match o with
  | none => ∃ i b x t p, e = .returned (.tuple #[.int .i32 i, .bool b, .string x, .iface t p]) ∧ Below w.heap.size w w'
  | some (r, mb, rest) => e = .returned (.tuple #[.int .i32 r, .bool mb, .string (mk rest), .nilIface]) ∧ Below w.heap.size w w'
theorem mk_drop (l : List UInt8) (i n : Nat) (h : n = l.length) : (mk l).extract i n = mk (l.drop i) := by
  subst h
  rw [mk_extract, List.take_of_length_le (by rw [List.length_drop]; exact Nat.le_refl _)]
set_option maxRecDepth 100000 in
set_option maxHeartbeats 1000000 in
theorem uqc_high (c : UInt8) (t : List UInt8) (hc : 128 ≤ c.toNat) (hl : t.length ≤ 4294967296) (w : World) (tb : TBl w) :
    Calls Tryz.prog 160 #[.string (mk (c :: t)), .int .u8 34] w fun e w' => UqP w w' (uqC (c :: t)) e := by
  have HT := Aside0.mk tb
  have hz : (mk (c :: t)).size = t.length + 1 := by rw [mk_size]; rfl
  have hu : uqC (c :: t) = some ((Lib.decodeL (c :: t)).1, true, (c :: t).drop (Lib.decodeL (c :: t)).2) := by
    unfold uqC
    simp only
    rw [if_neg (fun e => by rw [e] at hc; exact absurd hc (by decide)), if_pos hc]
  rw [hu]
  clear tb hu
  have hd : Lib.decodeGo (mk (c :: t)) = Lib.decodeL (c :: t) := by
    unfold Lib.decodeGo
    rw [if_neg (by omega), ← Lib.decodeL_drop]
    rfl
  have hf := decodeL_fits (c :: t) (by simp)
  have hr := decode_le (mk (c :: t)) 0
  rw [← Lib.decodeL_drop] at hr
  have hr : (Lib.decodeL (c :: t)).1 ≤ 2147483647 := hr
  have HD := Aside0.mk hd
  rw [List.length_cons] at hf
  have HS : Aside0 (∀ k, (mk (c :: t)).extract k (t.length + 1) = mk ((c :: t).drop k)) := ⟨fun k => mk_drop _ _ _ (by simp)⟩
  generalize Lib.decodeL (c :: t) = dd at *
  obtain ⟨r, k⟩ := dd
  simp only at hf hr
  have e0 : ∀ h, (mk (c :: t))[0]'h = c := fun _ => rfl
  generalize mk (c :: t) = s at *
  generalize (c :: t).drop = D at *
  have n34 : ((c.toNat : Int) == 34) = false := beq_eq_false_iff_ne.2 (by omega)
  have n128 : ((128 : Int) ≤ (c.toNat : Int)) = True := eq_true (by omega)
  generalize t.length = m at *
  clear hd
  go_enter Tryz.func160, Tryz.ntmps160
  go_wp2_with fail
  refine (Tryz.utf8_DecodeRuneInString s _ HT.out.1).mono ?_
  rintro e w1 ⟨rfl, hB⟩
  have HB := Aside0.mk hB
  clear hB
  rw [HD.out]
  go_wp2
  go_region
  all_goals
    go_wp2
    exact bodyPost_ret (v := .tuple #[.int .i32 (r : Int), .bool true, .string (s.extract k (m + 1)), .nilIface]) (by simp [results, Tryz.results160, go_sem]) rfl ⟨by rw [HS.out], by repeat (first | exact HB.out | apply below_drew | apply pw_below_drewN)⟩
set_option maxRecDepth 100000 in
set_option maxHeartbeats 1000000 in
theorem uqc_plain (c : UInt8) (t : List UInt8) (hc : c.toNat < 128) (h34 : c ≠ 34) (h92 : c ≠ 92) (hl : t.length ≤ 4294967296) (w : World) :
    Calls Tryz.prog 160 #[.string (mk (c :: t)), .int .u8 34] w fun e w' => UqP w w' (uqC (c :: t)) e := by
  have hz : (mk (c :: t)).size = t.length + 1 := by rw [mk_size]; rfl
  have hu : uqC (c :: t) = some (c.toNat, false, t) := by
    unfold uqC
    simp only
    rw [if_neg h34, if_neg (by omega), if_pos h92]
  rw [hu]
  have HB := Aside0.mk (Below.refl w.heap.size w)
  have HS : Aside0 ((mk (c :: t)).extract 1 (t.length + 1) = mk t) := ⟨mk_drop _ _ _ (by simp)⟩
  have e0 : ∀ h, (mk (c :: t))[0]'h = c := fun _ => rfl
  have n34 : ((c.toNat : Int) == 34) = false := beq_eq_false_iff_ne.2 (fun e => h34 (UInt8.toNat_inj.1 (by simpa using Int.ofNat.inj e)))
  have n92 : ((c.toNat : Int) != 92) = true := bne_iff_ne.2 (fun e => h92 (UInt8.toNat_inj.1 (by simpa using Int.ofNat.inj e)))
  have n128 : ((128 : Int) ≤ (c.toNat : Int)) = False := eq_false (by omega)
  have hcv : wrap32 (c.toNat : Int) = c.toNat := by unfold wrap32; omega
  clear hu h34 h92
  generalize mk (c :: t) = s at *
  generalize t.length = m at *
  go_enter Tryz.func160, Tryz.ntmps160
  go_wp2
  go_region
  all_goals
    go_wp2
    exact bodyPost_ret (v := .tuple #[.int .i32 (c.toNat : Int), .bool false, .string (s.extract 1 (m + 1)), .nilIface]) (by simp [results, Tryz.results160, go_sem]) rfl ⟨by rw [HS.out], by repeat (first | exact HB.out | apply below_drew | apply pw_below_drewN)⟩
set_option maxRecDepth 100000 in
set_option maxHeartbeats 1000000 in
theorem uqc_last (w : World) (he : IsE w 17) :
    Calls Tryz.prog 160 #[.string (mk [92]), .int .u8 34] w fun e w' => UqP w w' (uqC [92]) e := by
  obtain ⟨et, ep, hE⟩ := he
  have HB := Aside0.mk (Below.refl w.heap.size w)
  have hu : uqC [92] = none := rfl
  rw [hu]
  have hz : (mk [92]).size = 1 := rfl
  have e0 : ∀ h, (mk [92])[0]'h = 92 := fun _ => rfl
  generalize mk [92] = s at *
  go_enter Tryz.func160, Tryz.ntmps160
  go_wp2
  exact bodyPost_ret (v := .tuple #[.int .i32 0, .bool false, .string ⟨#[]⟩, .iface et ep]) (by simp [results, Tryz.results160, go_sem]) rfl ⟨_, _, _, _, _, rfl, by repeat (first | exact HB.out | apply below_drew | apply pw_below_drewN)⟩
set_option maxRecDepth 100000 in
set_option maxHeartbeats 1000000 in
theorem uqc_esc97 (t : List UInt8) (hl : t.length ≤ 4294967296) (w : World) (he : IsE w 17) :
    Calls Tryz.prog 160 #[.string (mk (92 :: 97 :: t)), .int .u8 34] w fun e w' => UqP w w' (uqC (92 :: 97 :: t)) e := by
  obtain ⟨et, ep, hE⟩ := he
  have HB := Aside0.mk (Below.refl w.heap.size w)
  have hu : uqC (92 :: 97 :: t) = some (7, false, t) := rfl
  rw [hu]
  have hz : (mk (92 :: 97 :: t)).size = t.length + 2 := by rw [mk_size]; rfl
  have e0 : ∀ h, (mk (92 :: 97 :: t))[0]'h = 92 := fun _ => rfl
  have e1 : ∀ h, (mk (92 :: 97 :: t))[1]'h = 97 := fun _ => rfl
  have HS : Aside0 ((mk (92 :: 97 :: t)).extract 2 (t.length + 2) = mk t) := ⟨mk_drop _ _ _ (by simp)⟩
  generalize mk (92 :: 97 :: t) = s at *
  generalize t.length = m at *
  go_enter Tryz.func160, Tryz.ntmps160
  go_wp2
  exact bodyPost_ret (v := .tuple #[.int .i32 7, .bool false, .string (s.extract 2 (m + 2)), .nilIface]) (by simp [results, Tryz.results160, go_sem]) rfl ⟨by rw [HS.out]; rfl, by repeat (first | exact HB.out | apply below_drew | apply pw_below_drewN)⟩
set_option maxRecDepth 100000 in
set_option maxHeartbeats 1000000 in
theorem uqc_esc98 (t : List UInt8) (hl : t.length ≤ 4294967296) (w : World) (he : IsE w 17) :
    Calls Tryz.prog 160 #[.string (mk (92 :: 98 :: t)), .int .u8 34] w fun e w' => UqP w w' (uqC (92 :: 98 :: t)) e := by
  obtain ⟨et, ep, hE⟩ := he
  have HB := Aside0.mk (Below.refl w.heap.size w)
  have hu : uqC (92 :: 98 :: t) = some (8, false, t) := rfl
  rw [hu]
  have hz : (mk (92 :: 98 :: t)).size = t.length + 2 := by rw [mk_size]; rfl
  have e0 : ∀ h, (mk (92 :: 98 :: t))[0]'h = 92 := fun _ => rfl
  have e1 : ∀ h, (mk (92 :: 98 :: t))[1]'h = 98 := fun _ => rfl
  have HS : Aside0 ((mk (92 :: 98 :: t)).extract 2 (t.length + 2) = mk t) := ⟨mk_drop _ _ _ (by simp)⟩
  generalize mk (92 :: 98 :: t) = s at *
  generalize t.length = m at *
  go_enter Tryz.func160, Tryz.ntmps160
  go_wp2
  exact bodyPost_ret (v := .tuple #[.int .i32 8, .bool false, .string (s.extract 2 (m + 2)), .nilIface]) (by simp [results, Tryz.results160, go_sem]) rfl ⟨by rw [HS.out]; rfl, by repeat (first | exact HB.out | apply below_drew | apply pw_below_drewN)⟩
set_option maxRecDepth 100000 in
set_option maxHeartbeats 1000000 in
theorem uqc_esc102 (t : List UInt8) (hl : t.length ≤ 4294967296) (w : World) (he : IsE w 17) :
    Calls Tryz.prog 160 #[.string (mk (92 :: 102 :: t)), .int .u8 34] w fun e w' => UqP w w' (uqC (92 :: 102 :: t)) e := by
  obtain ⟨et, ep, hE⟩ := he
  have HB := Aside0.mk (Below.refl w.heap.size w)
  have hu : uqC (92 :: 102 :: t) = some (12, false, t) := rfl
  rw [hu]
  have hz : (mk (92 :: 102 :: t)).size = t.length + 2 := by rw [mk_size]; rfl
  have e0 : ∀ h, (mk (92 :: 102 :: t))[0]'h = 92 := fun _ => rfl
  have e1 : ∀ h, (mk (92 :: 102 :: t))[1]'h = 102 := fun _ => rfl
  have HS : Aside0 ((mk (92 :: 102 :: t)).extract 2 (t.length + 2) = mk t) := ⟨mk_drop _ _ _ (by simp)⟩
  generalize mk (92 :: 102 :: t) = s at *
  generalize t.length = m at *
  go_enter Tryz.func160, Tryz.ntmps160
  go_wp2
  exact bodyPost_ret (v := .tuple #[.int .i32 12, .bool false, .string (s.extract 2 (m + 2)), .nilIface]) (by simp [results, Tryz.results160, go_sem]) rfl ⟨by rw [HS.out]; rfl, by repeat (first | exact HB.out | apply below_drew | apply pw_below_drewN)⟩
set_option maxRecDepth 100000 in
set_option maxHeartbeats 1000000 in
theorem uqc_esc110 (t : List UInt8) (hl : t.length ≤ 4294967296) (w : World) (he : IsE w 17) :
    Calls Tryz.prog 160 #[.string (mk (92 :: 110 :: t)), .int .u8 34] w fun e w' => UqP w w' (uqC (92 :: 110 :: t)) e := by
  obtain ⟨et, ep, hE⟩ := he
  have HB := Aside0.mk (Below.refl w.heap.size w)
  have hu : uqC (92 :: 110 :: t) = some (10, false, t) := rfl
  rw [hu]
  have hz : (mk (92 :: 110 :: t)).size = t.length + 2 := by rw [mk_size]; rfl
  have e0 : ∀ h, (mk (92 :: 110 :: t))[0]'h = 92 := fun _ => rfl
  have e1 : ∀ h, (mk (92 :: 110 :: t))[1]'h = 110 := fun _ => rfl
  have HS : Aside0 ((mk (92 :: 110 :: t)).extract 2 (t.length + 2) = mk t) := ⟨mk_drop _ _ _ (by simp)⟩
  generalize mk (92 :: 110 :: t) = s at *
  generalize t.length = m at *
  go_enter Tryz.func160, Tryz.ntmps160
  go_wp2
  exact bodyPost_ret (v := .tuple #[.int .i32 10, .bool false, .string (s.extract 2 (m + 2)), .nilIface]) (by simp [results, Tryz.results160, go_sem]) rfl ⟨by rw [HS.out]; rfl, by repeat (first | exact HB.out | apply below_drew | apply pw_below_drewN)⟩
set_option maxRecDepth 100000 in
set_option maxHeartbeats 1000000 in
theorem uqc_esc114 (t : List UInt8) (hl : t.length ≤ 4294967296) (w : World) (he : IsE w 17) :
    Calls Tryz.prog 160 #[.string (mk (92 :: 114 :: t)), .int .u8 34] w fun e w' => UqP w w' (uqC (92 :: 114 :: t)) e := by
  obtain ⟨et, ep, hE⟩ := he
  have HB := Aside0.mk (Below.refl w.heap.size w)
  have hu : uqC (92 :: 114 :: t) = some (13, false, t) := rfl
  rw [hu]
  have hz : (mk (92 :: 114 :: t)).size = t.length + 2 := by rw [mk_size]; rfl
  have e0 : ∀ h, (mk (92 :: 114 :: t))[0]'h = 92 := fun _ => rfl
  have e1 : ∀ h, (mk (92 :: 114 :: t))[1]'h = 114 := fun _ => rfl
  have HS : Aside0 ((mk (92 :: 114 :: t)).extract 2 (t.length + 2) = mk t) := ⟨mk_drop _ _ _ (by simp)⟩
  generalize mk (92 :: 114 :: t) = s at *
  generalize t.length = m at *
  go_enter Tryz.func160, Tryz.ntmps160
  go_wp2
  exact bodyPost_ret (v := .tuple #[.int .i32 13, .bool false, .string (s.extract 2 (m + 2)), .nilIface]) (by simp [results, Tryz.results160, go_sem]) rfl ⟨by rw [HS.out]; rfl, by repeat (first | exact HB.out | apply below_drew | apply pw_below_drewN)⟩
set_option maxRecDepth 100000 in
set_option maxHeartbeats 1000000 in
theorem uqc_esc116 (t : List UInt8) (hl : t.length ≤ 4294967296) (w : World) (he : IsE w 17) :
    Calls Tryz.prog 160 #[.string (mk (92 :: 116 :: t)), .int .u8 34] w fun e w' => UqP w w' (uqC (92 :: 116 :: t)) e := by
  obtain ⟨et, ep, hE⟩ := he
  have HB := Aside0.mk (Below.refl w.heap.size w)
  have hu : uqC (92 :: 116 :: t) = some (9, false, t) := rfl
  rw [hu]
  have hz : (mk (92 :: 116 :: t)).size = t.length + 2 := by rw [mk_size]; rfl
  have e0 : ∀ h, (mk (92 :: 116 :: t))[0]'h = 92 := fun _ => rfl
  have e1 : ∀ h, (mk (92 :: 116 :: t))[1]'h = 116 := fun _ => rfl
  have HS : Aside0 ((mk (92 :: 116 :: t)).extract 2 (t.length + 2) = mk t) := ⟨mk_drop _ _ _ (by simp)⟩
  generalize mk (92 :: 116 :: t) = s at *
  generalize t.length = m at *
  go_enter Tryz.func160, Tryz.ntmps160
  go_wp2
  exact bodyPost_ret (v := .tuple #[.int .i32 9, .bool false, .string (s.extract 2 (m + 2)), .nilIface]) (by simp [results, Tryz.results160, go_sem]) rfl ⟨by rw [HS.out]; rfl, by repeat (first | exact HB.out | apply below_drew | apply pw_below_drewN)⟩
set_option maxRecDepth 100000 in
set_option maxHeartbeats 1000000 in
theorem uqc_esc118 (t : List UInt8) (hl : t.length ≤ 4294967296) (w : World) (he : IsE w 17) :
    Calls Tryz.prog 160 #[.string (mk (92 :: 118 :: t)), .int .u8 34] w fun e w' => UqP w w' (uqC (92 :: 118 :: t)) e := by
  obtain ⟨et, ep, hE⟩ := he
  have HB := Aside0.mk (Below.refl w.heap.size w)
  have hu : uqC (92 :: 118 :: t) = some (11, false, t) := rfl
  rw [hu]
  have hz : (mk (92 :: 118 :: t)).size = t.length + 2 := by rw [mk_size]; rfl
  have e0 : ∀ h, (mk (92 :: 118 :: t))[0]'h = 92 := fun _ => rfl
  have e1 : ∀ h, (mk (92 :: 118 :: t))[1]'h = 118 := fun _ => rfl
  have HS : Aside0 ((mk (92 :: 118 :: t)).extract 2 (t.length + 2) = mk t) := ⟨mk_drop _ _ _ (by simp)⟩
  generalize mk (92 :: 118 :: t) = s at *
  generalize t.length = m at *
  go_enter Tryz.func160, Tryz.ntmps160
  go_wp2
  exact bodyPost_ret (v := .tuple #[.int .i32 11, .bool false, .string (s.extract 2 (m + 2)), .nilIface]) (by simp [results, Tryz.results160, go_sem]) rfl ⟨by rw [HS.out]; rfl, by repeat (first | exact HB.out | apply below_drew | apply pw_below_drewN)⟩
set_option maxRecDepth 100000 in
set_option maxHeartbeats 1000000 in
theorem uqc_esc92 (t : List UInt8) (hl : t.length ≤ 4294967296) (w : World) (he : IsE w 17) :
    Calls Tryz.prog 160 #[.string (mk (92 :: 92 :: t)), .int .u8 34] w fun e w' => UqP w w' (uqC (92 :: 92 :: t)) e := by
  obtain ⟨et, ep, hE⟩ := he
  have HB := Aside0.mk (Below.refl w.heap.size w)
  have hu : uqC (92 :: 92 :: t) = some (92, false, t) := rfl
  rw [hu]
  have hz : (mk (92 :: 92 :: t)).size = t.length + 2 := by rw [mk_size]; rfl
  have e0 : ∀ h, (mk (92 :: 92 :: t))[0]'h = 92 := fun _ => rfl
  have e1 : ∀ h, (mk (92 :: 92 :: t))[1]'h = 92 := fun _ => rfl
  have HS : Aside0 ((mk (92 :: 92 :: t)).extract 2 (t.length + 2) = mk t) := ⟨mk_drop _ _ _ (by simp)⟩
  generalize mk (92 :: 92 :: t) = s at *
  generalize t.length = m at *
  go_enter Tryz.func160, Tryz.ntmps160
  go_wp2
  exact bodyPost_ret (v := .tuple #[.int .i32 92, .bool false, .string (s.extract 2 (m + 2)), .nilIface]) (by simp [results, Tryz.results160, go_sem]) rfl ⟨by rw [HS.out]; rfl, by repeat (first | exact HB.out | apply below_drew | apply pw_below_drewN)⟩
set_option maxRecDepth 100000 in
set_option maxHeartbeats 1000000 in
theorem uqc_esc34 (t : List UInt8) (hl : t.length ≤ 4294967296) (w : World) (he : IsE w 17) :
    Calls Tryz.prog 160 #[.string (mk (92 :: 34 :: t)), .int .u8 34] w fun e w' => UqP w w' (uqC (92 :: 34 :: t)) e := by
  obtain ⟨et, ep, hE⟩ := he
  have HB := Aside0.mk (Below.refl w.heap.size w)
  have hu : uqC (92 :: 34 :: t) = some (34, false, t) := rfl
  rw [hu]
  have hz : (mk (92 :: 34 :: t)).size = t.length + 2 := by rw [mk_size]; rfl
  have e0 : ∀ h, (mk (92 :: 34 :: t))[0]'h = 92 := fun _ => rfl
  have e1 : ∀ h, (mk (92 :: 34 :: t))[1]'h = 34 := fun _ => rfl
  have HS : Aside0 ((mk (92 :: 34 :: t)).extract 2 (t.length + 2) = mk t) := ⟨mk_drop _ _ _ (by simp)⟩
  generalize mk (92 :: 34 :: t) = s at *
  generalize t.length = m at *
  go_enter Tryz.func160, Tryz.ntmps160
  go_wp2
  exact bodyPost_ret (v := .tuple #[.int .i32 34, .bool false, .string (s.extract 2 (m + 2)), .nilIface]) (by simp [results, Tryz.results160, go_sem]) rfl ⟨by rw [HS.out]; rfl, by repeat (first | exact HB.out | apply below_drew | apply pw_below_drewN)⟩
set_option maxRecDepth 100000 in
set_option maxHeartbeats 1000000 in
theorem uqc_esc39 (t : List UInt8) (hl : t.length ≤ 4294967296) (w : World) (he : IsE w 17) :
    Calls Tryz.prog 160 #[.string (mk (92 :: 39 :: t)), .int .u8 34] w fun e w' => UqP w w' (none) e := by
  obtain ⟨et, ep, hE⟩ := he
  have HB := Aside0.mk (Below.refl w.heap.size w)
  have hz : (mk (92 :: 39 :: t)).size = t.length + 2 := by rw [mk_size]; rfl
  have e0 : ∀ h, (mk (92 :: 39 :: t))[0]'h = 92 := fun _ => rfl
  have e1 : ∀ h, (mk (92 :: 39 :: t))[1]'h = 39 := fun _ => rfl
  generalize mk (92 :: 39 :: t) = s at *
  generalize t.length = m at *
  go_enter Tryz.func160, Tryz.ntmps160
  go_wp2
  exact bodyPost_ret (v := .tuple #[.int .i32 0, .bool false, .string ⟨#[]⟩, .iface et ep]) (by simp [results, Tryz.results160, go_sem]) rfl ⟨_, _, _, _, _, rfl, by repeat (first | exact HB.out | apply below_drew | apply pw_below_drewN)⟩
def knownE : List Int := [97, 98, 102, 110, 114, 116, 118, 120, 117, 85, 48, 49, 50, 51, 52, 53, 54, 55, 92, 39, 34]
set_option maxRecDepth 100000 in
set_option maxHeartbeats 1000000 in
theorem uqc_other (d : UInt8) (t : List UInt8) (hn : ∀ k ∈ knownE, (d.toNat : Int) ≠ k) (hl : t.length ≤ 4294967296) (w : World) (he : IsE w 17) :
    Calls Tryz.prog 160 #[.string (mk (92 :: d :: t)), .int .u8 34] w fun e w' => UqP w w' (none) e := by
  obtain ⟨et, ep, hE⟩ := he
  have HB := Aside0.mk (Below.refl w.heap.size w)
  have q97 : ((d.toNat : Int) == 97) = false := beq_eq_false_iff_ne.2 (hn 97 (by decide))
  have q98 : ((d.toNat : Int) == 98) = false := beq_eq_false_iff_ne.2 (hn 98 (by decide))
  have q102 : ((d.toNat : Int) == 102) = false := beq_eq_false_iff_ne.2 (hn 102 (by decide))
  have q110 : ((d.toNat : Int) == 110) = false := beq_eq_false_iff_ne.2 (hn 110 (by decide))
  have q114 : ((d.toNat : Int) == 114) = false := beq_eq_false_iff_ne.2 (hn 114 (by decide))
  have q116 : ((d.toNat : Int) == 116) = false := beq_eq_false_iff_ne.2 (hn 116 (by decide))
  have q118 : ((d.toNat : Int) == 118) = false := beq_eq_false_iff_ne.2 (hn 118 (by decide))
  have q120 : ((d.toNat : Int) == 120) = false := beq_eq_false_iff_ne.2 (hn 120 (by decide))
  have q117 : ((d.toNat : Int) == 117) = false := beq_eq_false_iff_ne.2 (hn 117 (by decide))
  have q85 : ((d.toNat : Int) == 85) = false := beq_eq_false_iff_ne.2 (hn 85 (by decide))
  have q48 : ((d.toNat : Int) == 48) = false := beq_eq_false_iff_ne.2 (hn 48 (by decide))
  have q49 : ((d.toNat : Int) == 49) = false := beq_eq_false_iff_ne.2 (hn 49 (by decide))
  have q50 : ((d.toNat : Int) == 50) = false := beq_eq_false_iff_ne.2 (hn 50 (by decide))
  have q51 : ((d.toNat : Int) == 51) = false := beq_eq_false_iff_ne.2 (hn 51 (by decide))
  have q52 : ((d.toNat : Int) == 52) = false := beq_eq_false_iff_ne.2 (hn 52 (by decide))
  have q53 : ((d.toNat : Int) == 53) = false := beq_eq_false_iff_ne.2 (hn 53 (by decide))
  have q54 : ((d.toNat : Int) == 54) = false := beq_eq_false_iff_ne.2 (hn 54 (by decide))
  have q55 : ((d.toNat : Int) == 55) = false := beq_eq_false_iff_ne.2 (hn 55 (by decide))
  have q92 : ((d.toNat : Int) == 92) = false := beq_eq_false_iff_ne.2 (hn 92 (by decide))
  have q39 : ((d.toNat : Int) == 39) = false := beq_eq_false_iff_ne.2 (hn 39 (by decide))
  have q34 : ((d.toNat : Int) == 34) = false := beq_eq_false_iff_ne.2 (hn 34 (by decide))
  clear hn
  have hz : (mk (92 :: d :: t)).size = t.length + 2 := by rw [mk_size]; rfl
  have e0 : ∀ h, (mk (92 :: d :: t))[0]'h = 92 := fun _ => rfl
  have e1 : ∀ h, (mk (92 :: d :: t))[1]'h = d := fun _ => rfl
  generalize mk (92 :: d :: t) = s at *
  generalize t.length = m at *
  go_enter Tryz.func160, Tryz.ntmps160
  go_wp2
  exact bodyPost_ret (v := .tuple #[.int .i32 0, .bool false, .string ⟨#[]⟩, .iface et ep]) (by simp [results, Tryz.results160, go_sem]) rfl ⟨_, _, _, _, _, rfl, by repeat (first | exact HB.out | apply below_drew | apply pw_below_drewN)⟩
end Go.Proofs.YtnnhehlieakedaaGreatDoor.Q
namespace Go.Proofs.YtnnhehlieakedaaGreatDoor.Q
open Go.RowKit Go.Lib Go.Proofs.YtnnhehlieakedaaGreatDoorW.PrintWords Go.Proofs.YtnnhehlieakedaaGreatDoorW.PrintLast Go.Proofs.YtnnhehlieakedaaGreatDoorW.PrintMore
attribute [local go_sem] max2_int min2_int max_two min_two max_three min_three max_four min_four
theorem hexV_lt {u : UInt8} {x : Nat} (h : hexV u = some x) : x < 16 := by
  unfold hexV at h
  repeat' split at h
  all_goals first | (cases h; done) | (have := Option.some.inj h; omega)
theorem hexNat_short : ∀ (n : Nat) (l : List UInt8) (v : Nat), l.length < n → hexNat n l v = none
  | 0, _, _, h => absurd h (by omega)
  | _ + 1, [], _, _ => rfl
  | n + 1, c :: l, v, h => by
    rw [hexNat]
    split
    · rfl
    · exact hexNat_short n l _ (by simp at h; omega)
def hexX (n : Nat) (t : List UInt8) : Option (Nat × Bool × List UInt8) := (hexNat n t 0).map fun v => (v, false, t.drop n)
def hexR (n : Nat) (t : List UInt8) : Option (Nat × Bool × List UInt8) := match hexNat n t 0 with
  | none => none
  | some v => if okRune v then some (v, true, t.drop n) else none
theorem wrap_is32 (x : Nat) : IntKind.i32.wrap (x : Int) = wrap32 (x : Int) := by
  rw [IntKind.wrap_i32, wrap32]
theorem or16 (v x : Nat) (hx : x < 16) : bits .or .i32 (wrap32 (wrap32 (v : Int) * 16)) (x : Int) = wrap32 ((v * 16 + x : Nat) : Int) := by
  show IntKind.i32.wrap ((BitVec.ofInt 32 (wrap32 (wrap32 (v : Int) * 16)) ||| BitVec.ofInt 32 (x : Int)).toNat : Int) = _
  have e1 : (BitVec.ofInt 32 (wrap32 (wrap32 (v : Int) * 16))).toNat = (v * 16) % 4294967296 := by
    rw [BitVec.toNat_ofInt]
    unfold wrap32
    omega
  have e2 : (BitVec.ofInt 32 (x : Int)).toNat = x := by
    rw [BitVec.toNat_ofInt]
    omega
  rw [BitVec.toNat_or, e1, e2, nat_join4 _ _ (by omega) hx, wrap_is32]
  unfold wrap32
  omega
def octR (c : Nat) (t : List UInt8) : Option (Nat × Bool × List UInt8) := match octNat 2 t c with
  | none => none
  | some v => if v ≤ 255 then some (v, false, t.drop 2) else none
theorem octNat_short : ∀ (n : Nat) (l : List UInt8) (v : Nat), l.length < n → octNat n l v = none
  | 0, _, _, h => absurd h (by omega)
  | _ + 1, [], _, _ => rfl
  | n + 1, c :: l, v, h => by
    rw [octNat]
    split
    · rfl
    · exact octNat_short n l _ (by simp at h; omega)
theorem or8 (v x : Nat) (hv : v < 1000) (hx : x < 8) : bits .or .i32 (wrap32 ((v : Int) * 8)) (x : Int) = ((v * 8 + x : Nat) : Int) := by
  show IntKind.i32.wrap ((BitVec.ofInt 32 (wrap32 ((v : Int) * 8)) ||| BitVec.ofInt 32 (x : Int)).toNat : Int) = _
  have e1 : (BitVec.ofInt 32 (wrap32 ((v : Int) * 8))).toNat = v * 8 := by
    rw [BitVec.toNat_ofInt]
    unfold wrap32
    omega
  have e2 : (BitVec.ofInt 32 (x : Int)).toNat = x := by
    rw [BitVec.toNat_ofInt]
    omega
  rw [BitVec.toNat_or, e1, e2, nat_join3 _ _ (by omega) hx, wrap_is32]
  unfold wrap32
  omega
theorem wrap32_nat (v : Nat) (h : v < 2147483648) : wrap32 (v : Int) = v := by unfold wrap32; omega
set_option maxRecDepth 100000 in
set_option maxHeartbeats 2000000 in
theorem uqc_x (d : UInt8) (hd : d = 120) (t : List UInt8) (hl : t.length ≤ 4294967296) (w : World) (he : IsE w 17) :
    Calls Tryz.prog 160 #[.string (mk (92 :: d :: t)), .int .u8 34] w fun e w' => UqP w w' (hexX 2 t) e := by
  obtain ⟨et, ep, hE⟩ := he
  have HB := Aside0.mk (Below.refl w.heap.size w)
  have hz : (mk (92 :: d :: t)).size = t.length + 2 := by rw [mk_size]; rfl
  have e0 : ∀ h, (mk (92 :: d :: t))[0]'h = 92 := fun _ => rfl
  have e1 : ∀ h, (mk (92 :: d :: t))[1]'h = d := fun _ => rfl
  have HS : Aside0 ((mk (92 :: d :: t)).extract 2 (t.length + 2) = mk t) := ⟨mk_drop _ _ _ (by simp)⟩
  obtain ⟨s2, hs2⟩ : ∃ s2, s2 = mk t := ⟨_, rfl⟩
  rw [← hs2] at HS
  have HS2 := Aside0.mk hs2
  have hz2 : s2.size = t.length := by rw [hs2, mk_size]
  clear hs2
  generalize mk (92 :: d :: t) = s at *
  subst hd
  by_cases hn : t.length < 2
  · have HN : Aside0 ((hexX 2 t) = (none : Option (Nat × Bool × List UInt8))) := ⟨by unfold hexX; rw [hexNat_short _ _ _ hn]; try rfl⟩
    have hlt : ((t.length : Int) < 2) = True := eq_true (by omega)
    go_enter Tryz.func160, Tryz.ntmps160
    go_wp2
    exact bodyPost_ret (v := .tuple #[.int .i32 0, .bool false, .string ⟨#[]⟩, .iface et ep]) (by simp [results, Tryz.results160, go_sem]) rfl (by rw [HN.out]; exact ⟨_, _, _, _, _, rfl, HB.out⟩)
  · have hlt : ((t.length : Int) < 2) = False := eq_false (by omega)
    go_enter Tryz.func160, Tryz.ntmps160
    go_wp2
    rw [HS.out]
    go_loopw [7, 13, 14] (fun v7 v13 v14 wr => ∃ (j v : Nat), v7 = .nilIface ∧ j ≤ 2 ∧ v14 = .int .i64 j ∧ v13 = .int .i32 (wrap32 (v : Int)) ∧ Aside0 (hexNat 2 t 0 = hexNat (2 - j) (t.drop j) v ∧ v < 16 ^ j) ∧ Aside0 (Below w.heap.size w wr) ∧ wr.cell? ⟨17, 0, none⟩ = some (.iface et ep)) (fun _ _ v14 _ => (2 - RowKit.intOf v14).toNat)
    case atStart => exact ⟨0, 0, rfl, by omega, rfl, by rw [wrap32_nat 0 (by omega)]; rfl, ⟨rfl, by decide⟩, HB, hE⟩
    case round =>
      clear HB hE
      obtain ⟨j, v, rfl, hj, rfl, rfl, HV, HB, hE⟩ := hrel
      by_cases hjn : j < 2
      · have hq : ((j : Int) < 2) = True := eq_true (by omega)
        have hjt : j < t.length := by omega
        have hjs : j < s2.size := by omega
        have ej : ∀ h, s2[j]'h = t[j] := by have := HS2.out; subst this; exact fun _ => rfl
        have hst : hexNat (2 - j) (t.drop j) v = match hexV t[j] with
          | none => none
          | some x => hexNat (2 - (j + 1)) (t.drop (j + 1)) (v * 16 + x) := by
          have e : 2 - j = (2 - (j + 1)) + 1 := by omega
          rw [e, List.drop_eq_getElem_cons hjt, hexNat]
          cases hexV t[j] <;> rfl
        have HST := Aside0.mk hst
        clear hst
        generalize t[j] = u at *
        go_wp2_with fail
        refine (unhex_calls u _).mono ?_
        rintro e w1 ⟨rfl, rfl⟩
        cases hx : hexV u with
        | none =>
          have HN : Aside0 ((hexX 2 t) = (none : Option (Nat × Bool × List UInt8))) := ⟨by unfold hexX; rw [HV.out.1, HST.out, hx]; try rfl⟩
          simp only [Option.getD_none, Option.isSome_none]
          go_wp2
          exact bodyPost_ret (v := .tuple #[.int .i32 0, .bool false, .string ⟨#[]⟩, .iface et ep]) (by simp [results, Tryz.results160, go_sem]) rfl (by rw [HN.out]; exact ⟨_, _, _, _, _, rfl, HB.out⟩)
        | some x =>
          have hx16 := hexV_lt hx
          simp only [Option.getD_some, Option.isSome_some]
          have hor := or16 v x hx16
          have HV2 : Aside0 (hexNat 2 t 0 = hexNat (2 - (j + 1)) (t.drop (j + 1)) (v * 16 + x) ∧ v * 16 + x < 16 ^ (j + 1)) := ⟨by rw [HV.out.1, HST.out, hx], by have := HV.out.2; rw [Nat.pow_succ]; omega⟩
          clear hx hx16
          go_wp2
          go_roundw
          case rel => exact ⟨j + 1, v * 16 + x, rfl, by omega, by simp, rfl, HV2, HB, hE⟩
          case measure => simp [RowKit.intOf]; omega
      · obtain rfl : j = 2 := by omega
        have hq : (((2 : Nat) : Int) < 2) = False := eq_false (by omega)
        have HD : Aside0 (s2.extract 2 t.length = mk (t.drop 2)) := ⟨by rw [HS2.out]; exact mk_drop t 2 _ rfl⟩
        have hms : (2 : Int) ≤ (t.length : Int) := by omega
        have hmn : 2 ≤ t.length := by omega
        have HH : Aside0 (hexNat 2 t 0 = some v ∧ v < 256) := ⟨HV.out.1.trans (by rfl), by have := HV.out.2; simpa using this⟩
        clear HV
        have hw := wrap32_nat v (by have := HH.out.2; omega)
        rw [hw]
        go_wp2
        exact bodyPost_ret (v := .tuple #[.int .i32 (v : Int), .bool false, .string (s2.extract 2 t.length), .nilIface]) (by simp [results, Tryz.results160, go_sem]) rfl (by unfold hexX; rw [HH.out.1, HD.out]; exact ⟨rfl, HB.out⟩)
set_option maxRecDepth 100000 in
set_option maxHeartbeats 2000000 in
theorem uqc_u (d : UInt8) (hd : d = 117) (t : List UInt8) (hl : t.length ≤ 4294967296) (w : World) (he : IsE w 17) :
    Calls Tryz.prog 160 #[.string (mk (92 :: d :: t)), .int .u8 34] w fun e w' => UqP w w' (hexR 4 t) e := by
  obtain ⟨et, ep, hE⟩ := he
  have HB := Aside0.mk (Below.refl w.heap.size w)
  have hz : (mk (92 :: d :: t)).size = t.length + 2 := by rw [mk_size]; rfl
  have e0 : ∀ h, (mk (92 :: d :: t))[0]'h = 92 := fun _ => rfl
  have e1 : ∀ h, (mk (92 :: d :: t))[1]'h = d := fun _ => rfl
  have HS : Aside0 ((mk (92 :: d :: t)).extract 2 (t.length + 2) = mk t) := ⟨mk_drop _ _ _ (by simp)⟩
  obtain ⟨s2, hs2⟩ : ∃ s2, s2 = mk t := ⟨_, rfl⟩
  rw [← hs2] at HS
  have HS2 := Aside0.mk hs2
  have hz2 : s2.size = t.length := by rw [hs2, mk_size]
  clear hs2
  generalize mk (92 :: d :: t) = s at *
  subst hd
  by_cases hn : t.length < 4
  · have HN : Aside0 ((hexR 4 t) = (none : Option (Nat × Bool × List UInt8))) := ⟨by unfold hexR; rw [hexNat_short _ _ _ hn]; try rfl⟩
    have hlt : ((t.length : Int) < 4) = True := eq_true (by omega)
    go_enter Tryz.func160, Tryz.ntmps160
    go_wp2
    exact bodyPost_ret (v := .tuple #[.int .i32 0, .bool false, .string ⟨#[]⟩, .iface et ep]) (by simp [results, Tryz.results160, go_sem]) rfl (by rw [HN.out]; exact ⟨_, _, _, _, _, rfl, HB.out⟩)
  · have hlt : ((t.length : Int) < 4) = False := eq_false (by omega)
    go_enter Tryz.func160, Tryz.ntmps160
    go_wp2
    rw [HS.out]
    go_loopw [7, 13, 14] (fun v7 v13 v14 wr => ∃ (j v : Nat), v7 = .nilIface ∧ j ≤ 4 ∧ v14 = .int .i64 j ∧ v13 = .int .i32 (wrap32 (v : Int)) ∧ Aside0 (hexNat 4 t 0 = hexNat (4 - j) (t.drop j) v ∧ v < 16 ^ j) ∧ Aside0 (Below w.heap.size w wr) ∧ wr.cell? ⟨17, 0, none⟩ = some (.iface et ep)) (fun _ _ v14 _ => (4 - RowKit.intOf v14).toNat)
    case atStart => exact ⟨0, 0, rfl, by omega, rfl, by rw [wrap32_nat 0 (by omega)]; rfl, ⟨rfl, by decide⟩, HB, hE⟩
    case round =>
      clear HB hE
      obtain ⟨j, v, rfl, hj, rfl, rfl, HV, HB, hE⟩ := hrel
      by_cases hjn : j < 4
      · have hq : ((j : Int) < 4) = True := eq_true (by omega)
        have hjt : j < t.length := by omega
        have hjs : j < s2.size := by omega
        have ej : ∀ h, s2[j]'h = t[j] := by have := HS2.out; subst this; exact fun _ => rfl
        have hst : hexNat (4 - j) (t.drop j) v = match hexV t[j] with
          | none => none
          | some x => hexNat (4 - (j + 1)) (t.drop (j + 1)) (v * 16 + x) := by
          have e : 4 - j = (4 - (j + 1)) + 1 := by omega
          rw [e, List.drop_eq_getElem_cons hjt, hexNat]
          cases hexV t[j] <;> rfl
        have HST := Aside0.mk hst
        clear hst
        generalize t[j] = u at *
        go_wp2_with fail
        refine (unhex_calls u _).mono ?_
        rintro e w1 ⟨rfl, rfl⟩
        cases hx : hexV u with
        | none =>
          have HN : Aside0 ((hexR 4 t) = (none : Option (Nat × Bool × List UInt8))) := ⟨by unfold hexR; rw [HV.out.1, HST.out, hx]; try rfl⟩
          simp only [Option.getD_none, Option.isSome_none]
          go_wp2
          exact bodyPost_ret (v := .tuple #[.int .i32 0, .bool false, .string ⟨#[]⟩, .iface et ep]) (by simp [results, Tryz.results160, go_sem]) rfl (by rw [HN.out]; exact ⟨_, _, _, _, _, rfl, HB.out⟩)
        | some x =>
          have hx16 := hexV_lt hx
          simp only [Option.getD_some, Option.isSome_some]
          have hor := or16 v x hx16
          have HV2 : Aside0 (hexNat 4 t 0 = hexNat (4 - (j + 1)) (t.drop (j + 1)) (v * 16 + x) ∧ v * 16 + x < 16 ^ (j + 1)) := ⟨by rw [HV.out.1, HST.out, hx], by have := HV.out.2; rw [Nat.pow_succ]; omega⟩
          clear hx hx16
          go_wp2
          go_roundw
          case rel => exact ⟨j + 1, v * 16 + x, rfl, by omega, by simp, rfl, HV2, HB, hE⟩
          case measure => simp [RowKit.intOf]; omega
      · obtain rfl : j = 4 := by omega
        have hq : (((4 : Nat) : Int) < 4) = False := eq_false (by omega)
        have HD : Aside0 (s2.extract 4 t.length = mk (t.drop 4)) := ⟨by rw [HS2.out]; exact mk_drop t 4 _ rfl⟩
        have hms : (4 : Int) ≤ (t.length : Int) := by omega
        have hmn : 4 ≤ t.length := by omega
        have HH : Aside0 (hexNat 4 t 0 = some v ∧ v < 65536) := ⟨HV.out.1.trans (by rfl), by have := HV.out.2; simpa using this⟩
        clear HV
        have hr0 : -2147483648 ≤ wrap32 (v : Int) := by unfold wrap32; omega
        have hr1 : wrap32 (v : Int) ≤ 2147483647 := by unfold wrap32; omega
        have HR : Aside0 ((decide (0 ≤ wrap32 (v : Int)) && okRune (wrap32 (v : Int)).toNat) = okRune v ∧ (okRune v = true → wrap32 (v : Int) = v)) := ⟨by
          have hv := HH.out.2
          unfold okRune
          rw [← Bool.decide_and]
          refine ⟨decide_eq_decide.2 ?_, fun h => ?_⟩
          · unfold wrap32; omega
          · have := of_decide_eq_true h; unfold wrap32; omega⟩
        go_wp2_with fail
        refine (validRune_calls (wrap32 (v : Int)) hr0 hr1 _).mono ?_
        rintro e w1 ⟨rfl, rfl⟩
        rw [HR.out.1]
        clear hr0 hr1
        cases hok : okRune v with
        | false =>
          have HN : Aside0 ((hexR 4 t) = (none : Option (Nat × Bool × List UInt8))) := ⟨by unfold hexR; rw [HH.out.1]; simp only [hok]; rfl⟩
          go_wp2
          exact bodyPost_ret (v := .tuple #[.int .i32 0, .bool false, .string ⟨#[]⟩, .iface et ep]) (by simp [results, Tryz.results160, go_sem]) rfl (by rw [HN.out]; exact ⟨_, _, _, _, _, rfl, HB.out⟩)
        | true =>
          have HO : Aside0 ((hexR 4 t) = some (v, true, t.drop 4)) := ⟨by unfold hexR; rw [HH.out.1]; simp only [hok, if_true]⟩
          rw [HR.out.2 hok]
          go_wp2
          exact bodyPost_ret (v := .tuple #[.int .i32 (v : Int), .bool true, .string (s2.extract 4 t.length), .nilIface]) (by simp [results, Tryz.results160, go_sem]) rfl (by rw [HO.out, HD.out]; exact ⟨rfl, HB.out⟩)
set_option maxRecDepth 100000 in
set_option maxHeartbeats 2000000 in
theorem uqc_U (d : UInt8) (hd : d = 85) (t : List UInt8) (hl : t.length ≤ 4294967296) (w : World) (he : IsE w 17) :
    Calls Tryz.prog 160 #[.string (mk (92 :: d :: t)), .int .u8 34] w fun e w' => UqP w w' (hexR 8 t) e := by
  obtain ⟨et, ep, hE⟩ := he
  have HB := Aside0.mk (Below.refl w.heap.size w)
  have hz : (mk (92 :: d :: t)).size = t.length + 2 := by rw [mk_size]; rfl
  have e0 : ∀ h, (mk (92 :: d :: t))[0]'h = 92 := fun _ => rfl
  have e1 : ∀ h, (mk (92 :: d :: t))[1]'h = d := fun _ => rfl
  have HS : Aside0 ((mk (92 :: d :: t)).extract 2 (t.length + 2) = mk t) := ⟨mk_drop _ _ _ (by simp)⟩
  obtain ⟨s2, hs2⟩ : ∃ s2, s2 = mk t := ⟨_, rfl⟩
  rw [← hs2] at HS
  have HS2 := Aside0.mk hs2
  have hz2 : s2.size = t.length := by rw [hs2, mk_size]
  clear hs2
  generalize mk (92 :: d :: t) = s at *
  subst hd
  by_cases hn : t.length < 8
  · have HN : Aside0 ((hexR 8 t) = (none : Option (Nat × Bool × List UInt8))) := ⟨by unfold hexR; rw [hexNat_short _ _ _ hn]; try rfl⟩
    have hlt : ((t.length : Int) < 8) = True := eq_true (by omega)
    go_enter Tryz.func160, Tryz.ntmps160
    go_wp2
    exact bodyPost_ret (v := .tuple #[.int .i32 0, .bool false, .string ⟨#[]⟩, .iface et ep]) (by simp [results, Tryz.results160, go_sem]) rfl (by rw [HN.out]; exact ⟨_, _, _, _, _, rfl, HB.out⟩)
  · have hlt : ((t.length : Int) < 8) = False := eq_false (by omega)
    go_enter Tryz.func160, Tryz.ntmps160
    go_wp2
    rw [HS.out]
    go_loopw [7, 13, 14] (fun v7 v13 v14 wr => ∃ (j v : Nat), v7 = .nilIface ∧ j ≤ 8 ∧ v14 = .int .i64 j ∧ v13 = .int .i32 (wrap32 (v : Int)) ∧ Aside0 (hexNat 8 t 0 = hexNat (8 - j) (t.drop j) v ∧ v < 16 ^ j) ∧ Aside0 (Below w.heap.size w wr) ∧ wr.cell? ⟨17, 0, none⟩ = some (.iface et ep)) (fun _ _ v14 _ => (8 - RowKit.intOf v14).toNat)
    case atStart => exact ⟨0, 0, rfl, by omega, rfl, by rw [wrap32_nat 0 (by omega)]; rfl, ⟨rfl, by decide⟩, HB, hE⟩
    case round =>
      clear HB hE
      obtain ⟨j, v, rfl, hj, rfl, rfl, HV, HB, hE⟩ := hrel
      by_cases hjn : j < 8
      · have hq : ((j : Int) < 8) = True := eq_true (by omega)
        have hjt : j < t.length := by omega
        have hjs : j < s2.size := by omega
        have ej : ∀ h, s2[j]'h = t[j] := by have := HS2.out; subst this; exact fun _ => rfl
        have hst : hexNat (8 - j) (t.drop j) v = match hexV t[j] with
          | none => none
          | some x => hexNat (8 - (j + 1)) (t.drop (j + 1)) (v * 16 + x) := by
          have e : 8 - j = (8 - (j + 1)) + 1 := by omega
          rw [e, List.drop_eq_getElem_cons hjt, hexNat]
          cases hexV t[j] <;> rfl
        have HST := Aside0.mk hst
        clear hst
        generalize t[j] = u at *
        go_wp2_with fail
        refine (unhex_calls u _).mono ?_
        rintro e w1 ⟨rfl, rfl⟩
        cases hx : hexV u with
        | none =>
          have HN : Aside0 ((hexR 8 t) = (none : Option (Nat × Bool × List UInt8))) := ⟨by unfold hexR; rw [HV.out.1, HST.out, hx]; try rfl⟩
          simp only [Option.getD_none, Option.isSome_none]
          go_wp2
          exact bodyPost_ret (v := .tuple #[.int .i32 0, .bool false, .string ⟨#[]⟩, .iface et ep]) (by simp [results, Tryz.results160, go_sem]) rfl (by rw [HN.out]; exact ⟨_, _, _, _, _, rfl, HB.out⟩)
        | some x =>
          have hx16 := hexV_lt hx
          simp only [Option.getD_some, Option.isSome_some]
          have hor := or16 v x hx16
          have HV2 : Aside0 (hexNat 8 t 0 = hexNat (8 - (j + 1)) (t.drop (j + 1)) (v * 16 + x) ∧ v * 16 + x < 16 ^ (j + 1)) := ⟨by rw [HV.out.1, HST.out, hx], by have := HV.out.2; rw [Nat.pow_succ]; omega⟩
          clear hx hx16
          go_wp2
          go_roundw
          case rel => exact ⟨j + 1, v * 16 + x, rfl, by omega, by simp, rfl, HV2, HB, hE⟩
          case measure => simp [RowKit.intOf]; omega
      · obtain rfl : j = 8 := by omega
        have hq : (((8 : Nat) : Int) < 8) = False := eq_false (by omega)
        have HD : Aside0 (s2.extract 8 t.length = mk (t.drop 8)) := ⟨by rw [HS2.out]; exact mk_drop t 8 _ rfl⟩
        have hms : (8 : Int) ≤ (t.length : Int) := by omega
        have hmn : 8 ≤ t.length := by omega
        have HH : Aside0 (hexNat 8 t 0 = some v ∧ v < 4294967296) := ⟨HV.out.1.trans (by rfl), by have := HV.out.2; simpa using this⟩
        clear HV
        have hr0 : -2147483648 ≤ wrap32 (v : Int) := by unfold wrap32; omega
        have hr1 : wrap32 (v : Int) ≤ 2147483647 := by unfold wrap32; omega
        have HR : Aside0 ((decide (0 ≤ wrap32 (v : Int)) && okRune (wrap32 (v : Int)).toNat) = okRune v ∧ (okRune v = true → wrap32 (v : Int) = v)) := ⟨by
          have hv := HH.out.2
          unfold okRune
          rw [← Bool.decide_and]
          refine ⟨decide_eq_decide.2 ?_, fun h => ?_⟩
          · unfold wrap32; omega
          · have := of_decide_eq_true h; unfold wrap32; omega⟩
        go_wp2_with fail
        refine (validRune_calls (wrap32 (v : Int)) hr0 hr1 _).mono ?_
        rintro e w1 ⟨rfl, rfl⟩
        rw [HR.out.1]
        clear hr0 hr1
        cases hok : okRune v with
        | false =>
          have HN : Aside0 ((hexR 8 t) = (none : Option (Nat × Bool × List UInt8))) := ⟨by unfold hexR; rw [HH.out.1]; simp only [hok]; rfl⟩
          go_wp2
          exact bodyPost_ret (v := .tuple #[.int .i32 0, .bool false, .string ⟨#[]⟩, .iface et ep]) (by simp [results, Tryz.results160, go_sem]) rfl (by rw [HN.out]; exact ⟨_, _, _, _, _, rfl, HB.out⟩)
        | true =>
          have HO : Aside0 ((hexR 8 t) = some (v, true, t.drop 8)) := ⟨by unfold hexR; rw [HH.out.1]; simp only [hok, if_true]⟩
          rw [HR.out.2 hok]
          go_wp2
          exact bodyPost_ret (v := .tuple #[.int .i32 (v : Int), .bool true, .string (s2.extract 8 t.length), .nilIface]) (by simp [results, Tryz.results160, go_sem]) rfl (by rw [HO.out, HD.out]; exact ⟨rfl, HB.out⟩)
set_option maxRecDepth 100000 in
set_option maxHeartbeats 2000000 in
theorem uqc_o48 (d : UInt8) (hd : d = 48) (t : List UInt8) (hl : t.length ≤ 4294967296) (w : World) (he : IsE w 17) :
    Calls Tryz.prog 160 #[.string (mk (92 :: d :: t)), .int .u8 34] w fun e w' => UqP w w' (octR 0 t) e := by
  obtain ⟨et, ep, hE⟩ := he
  have HB := Aside0.mk (Below.refl w.heap.size w)
  have hz : (mk (92 :: d :: t)).size = t.length + 2 := by rw [mk_size]; rfl
  have e0 : ∀ h, (mk (92 :: d :: t))[0]'h = 92 := fun _ => rfl
  have e1 : ∀ h, (mk (92 :: d :: t))[1]'h = d := fun _ => rfl
  have HS : Aside0 ((mk (92 :: d :: t)).extract 2 (t.length + 2) = mk t) := ⟨mk_drop _ _ _ (by simp)⟩
  obtain ⟨s2, hs2⟩ : ∃ s2, s2 = mk t := ⟨_, rfl⟩
  rw [← hs2] at HS
  have HS2 := Aside0.mk hs2
  have hz2 : s2.size = t.length := by rw [hs2, mk_size]
  clear hs2
  generalize mk (92 :: d :: t) = s at *
  subst hd
  by_cases hn : t.length < 2
  · have HN : Aside0 (octR 0 t = (none : Option (Nat × Bool × List UInt8))) := ⟨by unfold octR; rw [octNat_short _ _ _ hn]⟩
    have hlt : ((t.length : Int) < 2) = True := eq_true (by omega)
    go_enter Tryz.func160, Tryz.ntmps160
    go_wp2
    exact bodyPost_ret (v := .tuple #[.int .i32 0, .bool false, .string ⟨#[]⟩, .iface et ep]) (by simp [results, Tryz.results160, go_sem]) rfl (by rw [HN.out]; exact ⟨_, _, _, _, _, rfl, HB.out⟩)
  · have hlt : ((t.length : Int) < 2) = False := eq_false (by omega)
    go_enter Tryz.func160, Tryz.ntmps160
    go_wp2
    rw [HS.out]
    go_loopw [7, 17, 18] (fun v7 v17 v18 wr => ∃ (j v : Nat), v7 = .nilIface ∧ j ≤ 2 ∧ v18 = .int .i64 j ∧ v17 = .int .i32 (v : Int) ∧ v < 8 ^ (j + 1) ∧ Aside0 (octNat 2 t 0 = octNat (2 - j) (t.drop j) v) ∧ Aside0 (Below w.heap.size w wr) ∧ wr.cell? ⟨17, 0, none⟩ = some (.iface et ep)) (fun _ _ v18 _ => (2 - RowKit.intOf v18).toNat)
    case atStart => exact ⟨0, 0, rfl, by omega, rfl, rfl, by omega, ⟨rfl⟩, HB, hE⟩
    case round =>
      clear HB hE
      obtain ⟨j, v, rfl, hj, rfl, rfl, hv, HV, HB, hE⟩ := hrel
      by_cases hjn : j < 2
      · have hq : ((j : Int) < 2) = True := eq_true (by omega)
        have hjt : j < t.length := by omega
        have hjs : j < s2.size := by omega
        have ej : ∀ h, s2[j]'h = t[j] := by have := HS2.out; subst this; exact fun _ => rfl
        have hst : octNat (2 - j) (t.drop j) v = match octV t[j] with
          | none => none
          | some x => octNat (2 - (j + 1)) (t.drop (j + 1)) (v * 8 + x) := by
          have e : 2 - j = (2 - (j + 1)) + 1 := by omega
          rw [e, List.drop_eq_getElem_cons hjt, octNat]
          cases octV t[j] <;> rfl
        have HST := Aside0.mk hst
        clear hst
        generalize t[j] = u at *
        have hu := UInt8.toNat_lt u
        have hw1 : wrap32 (u.toNat : Int) = u.toNat := by unfold wrap32; omega
        have hw2 : wrap32 ((u.toNat : Int) - 48) = (u.toNat : Int) - 48 := by unfold wrap32; omega
        by_cases h1 : u.toNat < 48
        · have HN : Aside0 (octR 0 t = (none : Option (Nat × Bool × List UInt8))) := ⟨by unfold octR; rw [HV.out, HST.out, show octV u = none by unfold octV; rw [if_neg (by omega)]]⟩
          have c1 : ((u.toNat : Int) - 48 < 0) = True := eq_true (by omega)
          go_wp2
          exact bodyPost_ret (v := .tuple #[.int .i32 0, .bool false, .string ⟨#[]⟩, .iface et ep]) (by simp [results, Tryz.results160, go_sem]) rfl (by rw [HN.out]; exact ⟨_, _, _, _, _, rfl, HB.out⟩)
        · by_cases h2 : 55 < u.toNat
          · have HN : Aside0 (octR 0 t = (none : Option (Nat × Bool × List UInt8))) := ⟨by unfold octR; rw [HV.out, HST.out, show octV u = none by unfold octV; rw [if_neg (by omega)]]⟩
            have c1 : ((u.toNat : Int) - 48 < 0) = False := eq_false (by omega)
            have c2 : (7 < (u.toNat : Int) - 48) = True := eq_true (by omega)
            go_wp2
            exact bodyPost_ret (v := .tuple #[.int .i32 0, .bool false, .string ⟨#[]⟩, .iface et ep]) (by simp [results, Tryz.results160, go_sem]) rfl (by rw [HN.out]; exact ⟨_, _, _, _, _, rfl, HB.out⟩)
          · have c1 : ((u.toNat : Int) - 48 < 0) = False := eq_false (by omega)
            have c2 : (7 < (u.toNat : Int) - 48) = False := eq_false (by omega)
            have HV2 : Aside0 (octNat 2 t 0 = octNat (2 - (j + 1)) (t.drop (j + 1)) (v * 8 + (u.toNat - 48))) := ⟨by rw [HV.out, HST.out, show octV u = some (u.toNat - 48) by unfold octV; rw [if_pos (by omega)]]⟩
            have hor := or8 v (u.toNat - 48) (by have : 8 ^ (j + 1) ≤ 8 ^ 2 := Nat.pow_le_pow_right (by omega) (by omega); omega) (by omega)
            have hsub : (((u.toNat - 48 : Nat) : Int)) = (u.toNat : Int) - 48 := by omega
            rw [hsub] at hor
            have hv2 : v * 8 + (u.toNat - 48) < 8 ^ (j + 1 + 1) := by rw [Nat.pow_succ]; omega
            go_wp2
            go_roundw
            case rel => exact ⟨j + 1, v * 8 + (u.toNat - 48), rfl, by omega, by simp, by simp; omega, hv2, HV2, HB, hE⟩
            case measure => simp [RowKit.intOf]; omega
      · obtain rfl : j = 2 := by omega
        have hq : (((2 : Nat) : Int) < 2) = False := eq_false (by omega)
        have HD : Aside0 (s2.extract 2 t.length = mk (t.drop 2)) := ⟨by rw [HS2.out]; exact mk_drop t 2 _ rfl⟩
        have hms : (2 : Int) ≤ (t.length : Int) := by omega
        have hmn : 2 ≤ t.length := by omega
        have HH : Aside0 (octNat 2 t 0 = some v) := ⟨HV.out.trans (by rfl)⟩
        clear HV
        by_cases h255 : v ≤ 255
        · have c3 : (255 < (v : Int)) = False := eq_false (by omega)
          have HO : Aside0 (octR 0 t = some (v, false, t.drop 2)) := ⟨by unfold octR; rw [HH.out]; simp only; rw [if_pos h255]⟩
          go_wp2
          exact bodyPost_ret (v := .tuple #[.int .i32 (v : Int), .bool false, .string (s2.extract 2 t.length), .nilIface]) (by simp [results, Tryz.results160, go_sem]) rfl (by rw [HO.out, HD.out]; exact ⟨rfl, HB.out⟩)
        · have c3 : (255 < (v : Int)) = True := eq_true (by omega)
          have HN : Aside0 (octR 0 t = (none : Option (Nat × Bool × List UInt8))) := ⟨by unfold octR; rw [HH.out]; simp only; rw [if_neg h255]⟩
          go_wp2
          exact bodyPost_ret (v := .tuple #[.int .i32 0, .bool false, .string ⟨#[]⟩, .iface et ep]) (by simp [results, Tryz.results160, go_sem]) rfl (by rw [HN.out]; exact ⟨_, _, _, _, _, rfl, HB.out⟩)
set_option maxRecDepth 100000 in
set_option maxHeartbeats 2000000 in
theorem uqc_o49 (d : UInt8) (hd : d = 49) (t : List UInt8) (hl : t.length ≤ 4294967296) (w : World) (he : IsE w 17) :
    Calls Tryz.prog 160 #[.string (mk (92 :: d :: t)), .int .u8 34] w fun e w' => UqP w w' (octR 1 t) e := by
  obtain ⟨et, ep, hE⟩ := he
  have HB := Aside0.mk (Below.refl w.heap.size w)
  have hz : (mk (92 :: d :: t)).size = t.length + 2 := by rw [mk_size]; rfl
  have e0 : ∀ h, (mk (92 :: d :: t))[0]'h = 92 := fun _ => rfl
  have e1 : ∀ h, (mk (92 :: d :: t))[1]'h = d := fun _ => rfl
  have HS : Aside0 ((mk (92 :: d :: t)).extract 2 (t.length + 2) = mk t) := ⟨mk_drop _ _ _ (by simp)⟩
  obtain ⟨s2, hs2⟩ : ∃ s2, s2 = mk t := ⟨_, rfl⟩
  rw [← hs2] at HS
  have HS2 := Aside0.mk hs2
  have hz2 : s2.size = t.length := by rw [hs2, mk_size]
  clear hs2
  generalize mk (92 :: d :: t) = s at *
  subst hd
  by_cases hn : t.length < 2
  · have HN : Aside0 (octR 1 t = (none : Option (Nat × Bool × List UInt8))) := ⟨by unfold octR; rw [octNat_short _ _ _ hn]⟩
    have hlt : ((t.length : Int) < 2) = True := eq_true (by omega)
    go_enter Tryz.func160, Tryz.ntmps160
    go_wp2
    exact bodyPost_ret (v := .tuple #[.int .i32 0, .bool false, .string ⟨#[]⟩, .iface et ep]) (by simp [results, Tryz.results160, go_sem]) rfl (by rw [HN.out]; exact ⟨_, _, _, _, _, rfl, HB.out⟩)
  · have hlt : ((t.length : Int) < 2) = False := eq_false (by omega)
    go_enter Tryz.func160, Tryz.ntmps160
    go_wp2
    rw [HS.out]
    go_loopw [7, 17, 18] (fun v7 v17 v18 wr => ∃ (j v : Nat), v7 = .nilIface ∧ j ≤ 2 ∧ v18 = .int .i64 j ∧ v17 = .int .i32 (v : Int) ∧ v < 8 ^ (j + 1) ∧ Aside0 (octNat 2 t 1 = octNat (2 - j) (t.drop j) v) ∧ Aside0 (Below w.heap.size w wr) ∧ wr.cell? ⟨17, 0, none⟩ = some (.iface et ep)) (fun _ _ v18 _ => (2 - RowKit.intOf v18).toNat)
    case atStart => exact ⟨0, 1, rfl, by omega, rfl, rfl, by omega, ⟨rfl⟩, HB, hE⟩
    case round =>
      clear HB hE
      obtain ⟨j, v, rfl, hj, rfl, rfl, hv, HV, HB, hE⟩ := hrel
      by_cases hjn : j < 2
      · have hq : ((j : Int) < 2) = True := eq_true (by omega)
        have hjt : j < t.length := by omega
        have hjs : j < s2.size := by omega
        have ej : ∀ h, s2[j]'h = t[j] := by have := HS2.out; subst this; exact fun _ => rfl
        have hst : octNat (2 - j) (t.drop j) v = match octV t[j] with
          | none => none
          | some x => octNat (2 - (j + 1)) (t.drop (j + 1)) (v * 8 + x) := by
          have e : 2 - j = (2 - (j + 1)) + 1 := by omega
          rw [e, List.drop_eq_getElem_cons hjt, octNat]
          cases octV t[j] <;> rfl
        have HST := Aside0.mk hst
        clear hst
        generalize t[j] = u at *
        have hu := UInt8.toNat_lt u
        have hw1 : wrap32 (u.toNat : Int) = u.toNat := by unfold wrap32; omega
        have hw2 : wrap32 ((u.toNat : Int) - 48) = (u.toNat : Int) - 48 := by unfold wrap32; omega
        by_cases h1 : u.toNat < 48
        · have HN : Aside0 (octR 1 t = (none : Option (Nat × Bool × List UInt8))) := ⟨by unfold octR; rw [HV.out, HST.out, show octV u = none by unfold octV; rw [if_neg (by omega)]]⟩
          have c1 : ((u.toNat : Int) - 48 < 0) = True := eq_true (by omega)
          go_wp2
          exact bodyPost_ret (v := .tuple #[.int .i32 0, .bool false, .string ⟨#[]⟩, .iface et ep]) (by simp [results, Tryz.results160, go_sem]) rfl (by rw [HN.out]; exact ⟨_, _, _, _, _, rfl, HB.out⟩)
        · by_cases h2 : 55 < u.toNat
          · have HN : Aside0 (octR 1 t = (none : Option (Nat × Bool × List UInt8))) := ⟨by unfold octR; rw [HV.out, HST.out, show octV u = none by unfold octV; rw [if_neg (by omega)]]⟩
            have c1 : ((u.toNat : Int) - 48 < 0) = False := eq_false (by omega)
            have c2 : (7 < (u.toNat : Int) - 48) = True := eq_true (by omega)
            go_wp2
            exact bodyPost_ret (v := .tuple #[.int .i32 0, .bool false, .string ⟨#[]⟩, .iface et ep]) (by simp [results, Tryz.results160, go_sem]) rfl (by rw [HN.out]; exact ⟨_, _, _, _, _, rfl, HB.out⟩)
          · have c1 : ((u.toNat : Int) - 48 < 0) = False := eq_false (by omega)
            have c2 : (7 < (u.toNat : Int) - 48) = False := eq_false (by omega)
            have HV2 : Aside0 (octNat 2 t 1 = octNat (2 - (j + 1)) (t.drop (j + 1)) (v * 8 + (u.toNat - 48))) := ⟨by rw [HV.out, HST.out, show octV u = some (u.toNat - 48) by unfold octV; rw [if_pos (by omega)]]⟩
            have hor := or8 v (u.toNat - 48) (by have : 8 ^ (j + 1) ≤ 8 ^ 2 := Nat.pow_le_pow_right (by omega) (by omega); omega) (by omega)
            have hsub : (((u.toNat - 48 : Nat) : Int)) = (u.toNat : Int) - 48 := by omega
            rw [hsub] at hor
            have hv2 : v * 8 + (u.toNat - 48) < 8 ^ (j + 1 + 1) := by rw [Nat.pow_succ]; omega
            go_wp2
            go_roundw
            case rel => exact ⟨j + 1, v * 8 + (u.toNat - 48), rfl, by omega, by simp, by simp; omega, hv2, HV2, HB, hE⟩
            case measure => simp [RowKit.intOf]; omega
      · obtain rfl : j = 2 := by omega
        have hq : (((2 : Nat) : Int) < 2) = False := eq_false (by omega)
        have HD : Aside0 (s2.extract 2 t.length = mk (t.drop 2)) := ⟨by rw [HS2.out]; exact mk_drop t 2 _ rfl⟩
        have hms : (2 : Int) ≤ (t.length : Int) := by omega
        have hmn : 2 ≤ t.length := by omega
        have HH : Aside0 (octNat 2 t 1 = some v) := ⟨HV.out.trans (by rfl)⟩
        clear HV
        by_cases h255 : v ≤ 255
        · have c3 : (255 < (v : Int)) = False := eq_false (by omega)
          have HO : Aside0 (octR 1 t = some (v, false, t.drop 2)) := ⟨by unfold octR; rw [HH.out]; simp only; rw [if_pos h255]⟩
          go_wp2
          exact bodyPost_ret (v := .tuple #[.int .i32 (v : Int), .bool false, .string (s2.extract 2 t.length), .nilIface]) (by simp [results, Tryz.results160, go_sem]) rfl (by rw [HO.out, HD.out]; exact ⟨rfl, HB.out⟩)
        · have c3 : (255 < (v : Int)) = True := eq_true (by omega)
          have HN : Aside0 (octR 1 t = (none : Option (Nat × Bool × List UInt8))) := ⟨by unfold octR; rw [HH.out]; simp only; rw [if_neg h255]⟩
          go_wp2
          exact bodyPost_ret (v := .tuple #[.int .i32 0, .bool false, .string ⟨#[]⟩, .iface et ep]) (by simp [results, Tryz.results160, go_sem]) rfl (by rw [HN.out]; exact ⟨_, _, _, _, _, rfl, HB.out⟩)
set_option maxRecDepth 100000 in
set_option maxHeartbeats 2000000 in
theorem uqc_o50 (d : UInt8) (hd : d = 50) (t : List UInt8) (hl : t.length ≤ 4294967296) (w : World) (he : IsE w 17) :
    Calls Tryz.prog 160 #[.string (mk (92 :: d :: t)), .int .u8 34] w fun e w' => UqP w w' (octR 2 t) e := by
  obtain ⟨et, ep, hE⟩ := he
  have HB := Aside0.mk (Below.refl w.heap.size w)
  have hz : (mk (92 :: d :: t)).size = t.length + 2 := by rw [mk_size]; rfl
  have e0 : ∀ h, (mk (92 :: d :: t))[0]'h = 92 := fun _ => rfl
  have e1 : ∀ h, (mk (92 :: d :: t))[1]'h = d := fun _ => rfl
  have HS : Aside0 ((mk (92 :: d :: t)).extract 2 (t.length + 2) = mk t) := ⟨mk_drop _ _ _ (by simp)⟩
  obtain ⟨s2, hs2⟩ : ∃ s2, s2 = mk t := ⟨_, rfl⟩
  rw [← hs2] at HS
  have HS2 := Aside0.mk hs2
  have hz2 : s2.size = t.length := by rw [hs2, mk_size]
  clear hs2
  generalize mk (92 :: d :: t) = s at *
  subst hd
  by_cases hn : t.length < 2
  · have HN : Aside0 (octR 2 t = (none : Option (Nat × Bool × List UInt8))) := ⟨by unfold octR; rw [octNat_short _ _ _ hn]⟩
    have hlt : ((t.length : Int) < 2) = True := eq_true (by omega)
    go_enter Tryz.func160, Tryz.ntmps160
    go_wp2
    exact bodyPost_ret (v := .tuple #[.int .i32 0, .bool false, .string ⟨#[]⟩, .iface et ep]) (by simp [results, Tryz.results160, go_sem]) rfl (by rw [HN.out]; exact ⟨_, _, _, _, _, rfl, HB.out⟩)
  · have hlt : ((t.length : Int) < 2) = False := eq_false (by omega)
    go_enter Tryz.func160, Tryz.ntmps160
    go_wp2
    rw [HS.out]
    go_loopw [7, 17, 18] (fun v7 v17 v18 wr => ∃ (j v : Nat), v7 = .nilIface ∧ j ≤ 2 ∧ v18 = .int .i64 j ∧ v17 = .int .i32 (v : Int) ∧ v < 8 ^ (j + 1) ∧ Aside0 (octNat 2 t 2 = octNat (2 - j) (t.drop j) v) ∧ Aside0 (Below w.heap.size w wr) ∧ wr.cell? ⟨17, 0, none⟩ = some (.iface et ep)) (fun _ _ v18 _ => (2 - RowKit.intOf v18).toNat)
    case atStart => exact ⟨0, 2, rfl, by omega, rfl, rfl, by omega, ⟨rfl⟩, HB, hE⟩
    case round =>
      clear HB hE
      obtain ⟨j, v, rfl, hj, rfl, rfl, hv, HV, HB, hE⟩ := hrel
      by_cases hjn : j < 2
      · have hq : ((j : Int) < 2) = True := eq_true (by omega)
        have hjt : j < t.length := by omega
        have hjs : j < s2.size := by omega
        have ej : ∀ h, s2[j]'h = t[j] := by have := HS2.out; subst this; exact fun _ => rfl
        have hst : octNat (2 - j) (t.drop j) v = match octV t[j] with
          | none => none
          | some x => octNat (2 - (j + 1)) (t.drop (j + 1)) (v * 8 + x) := by
          have e : 2 - j = (2 - (j + 1)) + 1 := by omega
          rw [e, List.drop_eq_getElem_cons hjt, octNat]
          cases octV t[j] <;> rfl
        have HST := Aside0.mk hst
        clear hst
        generalize t[j] = u at *
        have hu := UInt8.toNat_lt u
        have hw1 : wrap32 (u.toNat : Int) = u.toNat := by unfold wrap32; omega
        have hw2 : wrap32 ((u.toNat : Int) - 48) = (u.toNat : Int) - 48 := by unfold wrap32; omega
        by_cases h1 : u.toNat < 48
        · have HN : Aside0 (octR 2 t = (none : Option (Nat × Bool × List UInt8))) := ⟨by unfold octR; rw [HV.out, HST.out, show octV u = none by unfold octV; rw [if_neg (by omega)]]⟩
          have c1 : ((u.toNat : Int) - 48 < 0) = True := eq_true (by omega)
          go_wp2
          exact bodyPost_ret (v := .tuple #[.int .i32 0, .bool false, .string ⟨#[]⟩, .iface et ep]) (by simp [results, Tryz.results160, go_sem]) rfl (by rw [HN.out]; exact ⟨_, _, _, _, _, rfl, HB.out⟩)
        · by_cases h2 : 55 < u.toNat
          · have HN : Aside0 (octR 2 t = (none : Option (Nat × Bool × List UInt8))) := ⟨by unfold octR; rw [HV.out, HST.out, show octV u = none by unfold octV; rw [if_neg (by omega)]]⟩
            have c1 : ((u.toNat : Int) - 48 < 0) = False := eq_false (by omega)
            have c2 : (7 < (u.toNat : Int) - 48) = True := eq_true (by omega)
            go_wp2
            exact bodyPost_ret (v := .tuple #[.int .i32 0, .bool false, .string ⟨#[]⟩, .iface et ep]) (by simp [results, Tryz.results160, go_sem]) rfl (by rw [HN.out]; exact ⟨_, _, _, _, _, rfl, HB.out⟩)
          · have c1 : ((u.toNat : Int) - 48 < 0) = False := eq_false (by omega)
            have c2 : (7 < (u.toNat : Int) - 48) = False := eq_false (by omega)
            have HV2 : Aside0 (octNat 2 t 2 = octNat (2 - (j + 1)) (t.drop (j + 1)) (v * 8 + (u.toNat - 48))) := ⟨by rw [HV.out, HST.out, show octV u = some (u.toNat - 48) by unfold octV; rw [if_pos (by omega)]]⟩
            have hor := or8 v (u.toNat - 48) (by have : 8 ^ (j + 1) ≤ 8 ^ 2 := Nat.pow_le_pow_right (by omega) (by omega); omega) (by omega)
            have hsub : (((u.toNat - 48 : Nat) : Int)) = (u.toNat : Int) - 48 := by omega
            rw [hsub] at hor
            have hv2 : v * 8 + (u.toNat - 48) < 8 ^ (j + 1 + 1) := by rw [Nat.pow_succ]; omega
            go_wp2
            go_roundw
            case rel => exact ⟨j + 1, v * 8 + (u.toNat - 48), rfl, by omega, by simp, by simp; omega, hv2, HV2, HB, hE⟩
            case measure => simp [RowKit.intOf]; omega
      · obtain rfl : j = 2 := by omega
        have hq : (((2 : Nat) : Int) < 2) = False := eq_false (by omega)
        have HD : Aside0 (s2.extract 2 t.length = mk (t.drop 2)) := ⟨by rw [HS2.out]; exact mk_drop t 2 _ rfl⟩
        have hms : (2 : Int) ≤ (t.length : Int) := by omega
        have hmn : 2 ≤ t.length := by omega
        have HH : Aside0 (octNat 2 t 2 = some v) := ⟨HV.out.trans (by rfl)⟩
        clear HV
        by_cases h255 : v ≤ 255
        · have c3 : (255 < (v : Int)) = False := eq_false (by omega)
          have HO : Aside0 (octR 2 t = some (v, false, t.drop 2)) := ⟨by unfold octR; rw [HH.out]; simp only; rw [if_pos h255]⟩
          go_wp2
          exact bodyPost_ret (v := .tuple #[.int .i32 (v : Int), .bool false, .string (s2.extract 2 t.length), .nilIface]) (by simp [results, Tryz.results160, go_sem]) rfl (by rw [HO.out, HD.out]; exact ⟨rfl, HB.out⟩)
        · have c3 : (255 < (v : Int)) = True := eq_true (by omega)
          have HN : Aside0 (octR 2 t = (none : Option (Nat × Bool × List UInt8))) := ⟨by unfold octR; rw [HH.out]; simp only; rw [if_neg h255]⟩
          go_wp2
          exact bodyPost_ret (v := .tuple #[.int .i32 0, .bool false, .string ⟨#[]⟩, .iface et ep]) (by simp [results, Tryz.results160, go_sem]) rfl (by rw [HN.out]; exact ⟨_, _, _, _, _, rfl, HB.out⟩)
set_option maxRecDepth 100000 in
set_option maxHeartbeats 2000000 in
theorem uqc_o51 (d : UInt8) (hd : d = 51) (t : List UInt8) (hl : t.length ≤ 4294967296) (w : World) (he : IsE w 17) :
    Calls Tryz.prog 160 #[.string (mk (92 :: d :: t)), .int .u8 34] w fun e w' => UqP w w' (octR 3 t) e := by
  obtain ⟨et, ep, hE⟩ := he
  have HB := Aside0.mk (Below.refl w.heap.size w)
  have hz : (mk (92 :: d :: t)).size = t.length + 2 := by rw [mk_size]; rfl
  have e0 : ∀ h, (mk (92 :: d :: t))[0]'h = 92 := fun _ => rfl
  have e1 : ∀ h, (mk (92 :: d :: t))[1]'h = d := fun _ => rfl
  have HS : Aside0 ((mk (92 :: d :: t)).extract 2 (t.length + 2) = mk t) := ⟨mk_drop _ _ _ (by simp)⟩
  obtain ⟨s2, hs2⟩ : ∃ s2, s2 = mk t := ⟨_, rfl⟩
  rw [← hs2] at HS
  have HS2 := Aside0.mk hs2
  have hz2 : s2.size = t.length := by rw [hs2, mk_size]
  clear hs2
  generalize mk (92 :: d :: t) = s at *
  subst hd
  by_cases hn : t.length < 2
  · have HN : Aside0 (octR 3 t = (none : Option (Nat × Bool × List UInt8))) := ⟨by unfold octR; rw [octNat_short _ _ _ hn]⟩
    have hlt : ((t.length : Int) < 2) = True := eq_true (by omega)
    go_enter Tryz.func160, Tryz.ntmps160
    go_wp2
    exact bodyPost_ret (v := .tuple #[.int .i32 0, .bool false, .string ⟨#[]⟩, .iface et ep]) (by simp [results, Tryz.results160, go_sem]) rfl (by rw [HN.out]; exact ⟨_, _, _, _, _, rfl, HB.out⟩)
  · have hlt : ((t.length : Int) < 2) = False := eq_false (by omega)
    go_enter Tryz.func160, Tryz.ntmps160
    go_wp2
    rw [HS.out]
    go_loopw [7, 17, 18] (fun v7 v17 v18 wr => ∃ (j v : Nat), v7 = .nilIface ∧ j ≤ 2 ∧ v18 = .int .i64 j ∧ v17 = .int .i32 (v : Int) ∧ v < 8 ^ (j + 1) ∧ Aside0 (octNat 2 t 3 = octNat (2 - j) (t.drop j) v) ∧ Aside0 (Below w.heap.size w wr) ∧ wr.cell? ⟨17, 0, none⟩ = some (.iface et ep)) (fun _ _ v18 _ => (2 - RowKit.intOf v18).toNat)
    case atStart => exact ⟨0, 3, rfl, by omega, rfl, rfl, by omega, ⟨rfl⟩, HB, hE⟩
    case round =>
      clear HB hE
      obtain ⟨j, v, rfl, hj, rfl, rfl, hv, HV, HB, hE⟩ := hrel
      by_cases hjn : j < 2
      · have hq : ((j : Int) < 2) = True := eq_true (by omega)
        have hjt : j < t.length := by omega
        have hjs : j < s2.size := by omega
        have ej : ∀ h, s2[j]'h = t[j] := by have := HS2.out; subst this; exact fun _ => rfl
        have hst : octNat (2 - j) (t.drop j) v = match octV t[j] with
          | none => none
          | some x => octNat (2 - (j + 1)) (t.drop (j + 1)) (v * 8 + x) := by
          have e : 2 - j = (2 - (j + 1)) + 1 := by omega
          rw [e, List.drop_eq_getElem_cons hjt, octNat]
          cases octV t[j] <;> rfl
        have HST := Aside0.mk hst
        clear hst
        generalize t[j] = u at *
        have hu := UInt8.toNat_lt u
        have hw1 : wrap32 (u.toNat : Int) = u.toNat := by unfold wrap32; omega
        have hw2 : wrap32 ((u.toNat : Int) - 48) = (u.toNat : Int) - 48 := by unfold wrap32; omega
        by_cases h1 : u.toNat < 48
        · have HN : Aside0 (octR 3 t = (none : Option (Nat × Bool × List UInt8))) := ⟨by unfold octR; rw [HV.out, HST.out, show octV u = none by unfold octV; rw [if_neg (by omega)]]⟩
          have c1 : ((u.toNat : Int) - 48 < 0) = True := eq_true (by omega)
          go_wp2
          exact bodyPost_ret (v := .tuple #[.int .i32 0, .bool false, .string ⟨#[]⟩, .iface et ep]) (by simp [results, Tryz.results160, go_sem]) rfl (by rw [HN.out]; exact ⟨_, _, _, _, _, rfl, HB.out⟩)
        · by_cases h2 : 55 < u.toNat
          · have HN : Aside0 (octR 3 t = (none : Option (Nat × Bool × List UInt8))) := ⟨by unfold octR; rw [HV.out, HST.out, show octV u = none by unfold octV; rw [if_neg (by omega)]]⟩
            have c1 : ((u.toNat : Int) - 48 < 0) = False := eq_false (by omega)
            have c2 : (7 < (u.toNat : Int) - 48) = True := eq_true (by omega)
            go_wp2
            exact bodyPost_ret (v := .tuple #[.int .i32 0, .bool false, .string ⟨#[]⟩, .iface et ep]) (by simp [results, Tryz.results160, go_sem]) rfl (by rw [HN.out]; exact ⟨_, _, _, _, _, rfl, HB.out⟩)
          · have c1 : ((u.toNat : Int) - 48 < 0) = False := eq_false (by omega)
            have c2 : (7 < (u.toNat : Int) - 48) = False := eq_false (by omega)
            have HV2 : Aside0 (octNat 2 t 3 = octNat (2 - (j + 1)) (t.drop (j + 1)) (v * 8 + (u.toNat - 48))) := ⟨by rw [HV.out, HST.out, show octV u = some (u.toNat - 48) by unfold octV; rw [if_pos (by omega)]]⟩
            have hor := or8 v (u.toNat - 48) (by have : 8 ^ (j + 1) ≤ 8 ^ 2 := Nat.pow_le_pow_right (by omega) (by omega); omega) (by omega)
            have hsub : (((u.toNat - 48 : Nat) : Int)) = (u.toNat : Int) - 48 := by omega
            rw [hsub] at hor
            have hv2 : v * 8 + (u.toNat - 48) < 8 ^ (j + 1 + 1) := by rw [Nat.pow_succ]; omega
            go_wp2
            go_roundw
            case rel => exact ⟨j + 1, v * 8 + (u.toNat - 48), rfl, by omega, by simp, by simp; omega, hv2, HV2, HB, hE⟩
            case measure => simp [RowKit.intOf]; omega
      · obtain rfl : j = 2 := by omega
        have hq : (((2 : Nat) : Int) < 2) = False := eq_false (by omega)
        have HD : Aside0 (s2.extract 2 t.length = mk (t.drop 2)) := ⟨by rw [HS2.out]; exact mk_drop t 2 _ rfl⟩
        have hms : (2 : Int) ≤ (t.length : Int) := by omega
        have hmn : 2 ≤ t.length := by omega
        have HH : Aside0 (octNat 2 t 3 = some v) := ⟨HV.out.trans (by rfl)⟩
        clear HV
        by_cases h255 : v ≤ 255
        · have c3 : (255 < (v : Int)) = False := eq_false (by omega)
          have HO : Aside0 (octR 3 t = some (v, false, t.drop 2)) := ⟨by unfold octR; rw [HH.out]; simp only; rw [if_pos h255]⟩
          go_wp2
          exact bodyPost_ret (v := .tuple #[.int .i32 (v : Int), .bool false, .string (s2.extract 2 t.length), .nilIface]) (by simp [results, Tryz.results160, go_sem]) rfl (by rw [HO.out, HD.out]; exact ⟨rfl, HB.out⟩)
        · have c3 : (255 < (v : Int)) = True := eq_true (by omega)
          have HN : Aside0 (octR 3 t = (none : Option (Nat × Bool × List UInt8))) := ⟨by unfold octR; rw [HH.out]; simp only; rw [if_neg h255]⟩
          go_wp2
          exact bodyPost_ret (v := .tuple #[.int .i32 0, .bool false, .string ⟨#[]⟩, .iface et ep]) (by simp [results, Tryz.results160, go_sem]) rfl (by rw [HN.out]; exact ⟨_, _, _, _, _, rfl, HB.out⟩)
set_option maxRecDepth 100000 in
set_option maxHeartbeats 2000000 in
theorem uqc_o52 (d : UInt8) (hd : d = 52) (t : List UInt8) (hl : t.length ≤ 4294967296) (w : World) (he : IsE w 17) :
    Calls Tryz.prog 160 #[.string (mk (92 :: d :: t)), .int .u8 34] w fun e w' => UqP w w' (octR 4 t) e := by
  obtain ⟨et, ep, hE⟩ := he
  have HB := Aside0.mk (Below.refl w.heap.size w)
  have hz : (mk (92 :: d :: t)).size = t.length + 2 := by rw [mk_size]; rfl
  have e0 : ∀ h, (mk (92 :: d :: t))[0]'h = 92 := fun _ => rfl
  have e1 : ∀ h, (mk (92 :: d :: t))[1]'h = d := fun _ => rfl
  have HS : Aside0 ((mk (92 :: d :: t)).extract 2 (t.length + 2) = mk t) := ⟨mk_drop _ _ _ (by simp)⟩
  obtain ⟨s2, hs2⟩ : ∃ s2, s2 = mk t := ⟨_, rfl⟩
  rw [← hs2] at HS
  have HS2 := Aside0.mk hs2
  have hz2 : s2.size = t.length := by rw [hs2, mk_size]
  clear hs2
  generalize mk (92 :: d :: t) = s at *
  subst hd
  by_cases hn : t.length < 2
  · have HN : Aside0 (octR 4 t = (none : Option (Nat × Bool × List UInt8))) := ⟨by unfold octR; rw [octNat_short _ _ _ hn]⟩
    have hlt : ((t.length : Int) < 2) = True := eq_true (by omega)
    go_enter Tryz.func160, Tryz.ntmps160
    go_wp2
    exact bodyPost_ret (v := .tuple #[.int .i32 0, .bool false, .string ⟨#[]⟩, .iface et ep]) (by simp [results, Tryz.results160, go_sem]) rfl (by rw [HN.out]; exact ⟨_, _, _, _, _, rfl, HB.out⟩)
  · have hlt : ((t.length : Int) < 2) = False := eq_false (by omega)
    go_enter Tryz.func160, Tryz.ntmps160
    go_wp2
    rw [HS.out]
    go_loopw [7, 17, 18] (fun v7 v17 v18 wr => ∃ (j v : Nat), v7 = .nilIface ∧ j ≤ 2 ∧ v18 = .int .i64 j ∧ v17 = .int .i32 (v : Int) ∧ v < 8 ^ (j + 1) ∧ Aside0 (octNat 2 t 4 = octNat (2 - j) (t.drop j) v) ∧ Aside0 (Below w.heap.size w wr) ∧ wr.cell? ⟨17, 0, none⟩ = some (.iface et ep)) (fun _ _ v18 _ => (2 - RowKit.intOf v18).toNat)
    case atStart => exact ⟨0, 4, rfl, by omega, rfl, rfl, by omega, ⟨rfl⟩, HB, hE⟩
    case round =>
      clear HB hE
      obtain ⟨j, v, rfl, hj, rfl, rfl, hv, HV, HB, hE⟩ := hrel
      by_cases hjn : j < 2
      · have hq : ((j : Int) < 2) = True := eq_true (by omega)
        have hjt : j < t.length := by omega
        have hjs : j < s2.size := by omega
        have ej : ∀ h, s2[j]'h = t[j] := by have := HS2.out; subst this; exact fun _ => rfl
        have hst : octNat (2 - j) (t.drop j) v = match octV t[j] with
          | none => none
          | some x => octNat (2 - (j + 1)) (t.drop (j + 1)) (v * 8 + x) := by
          have e : 2 - j = (2 - (j + 1)) + 1 := by omega
          rw [e, List.drop_eq_getElem_cons hjt, octNat]
          cases octV t[j] <;> rfl
        have HST := Aside0.mk hst
        clear hst
        generalize t[j] = u at *
        have hu := UInt8.toNat_lt u
        have hw1 : wrap32 (u.toNat : Int) = u.toNat := by unfold wrap32; omega
        have hw2 : wrap32 ((u.toNat : Int) - 48) = (u.toNat : Int) - 48 := by unfold wrap32; omega
        by_cases h1 : u.toNat < 48
        · have HN : Aside0 (octR 4 t = (none : Option (Nat × Bool × List UInt8))) := ⟨by unfold octR; rw [HV.out, HST.out, show octV u = none by unfold octV; rw [if_neg (by omega)]]⟩
          have c1 : ((u.toNat : Int) - 48 < 0) = True := eq_true (by omega)
          go_wp2
          exact bodyPost_ret (v := .tuple #[.int .i32 0, .bool false, .string ⟨#[]⟩, .iface et ep]) (by simp [results, Tryz.results160, go_sem]) rfl (by rw [HN.out]; exact ⟨_, _, _, _, _, rfl, HB.out⟩)
        · by_cases h2 : 55 < u.toNat
          · have HN : Aside0 (octR 4 t = (none : Option (Nat × Bool × List UInt8))) := ⟨by unfold octR; rw [HV.out, HST.out, show octV u = none by unfold octV; rw [if_neg (by omega)]]⟩
            have c1 : ((u.toNat : Int) - 48 < 0) = False := eq_false (by omega)
            have c2 : (7 < (u.toNat : Int) - 48) = True := eq_true (by omega)
            go_wp2
            exact bodyPost_ret (v := .tuple #[.int .i32 0, .bool false, .string ⟨#[]⟩, .iface et ep]) (by simp [results, Tryz.results160, go_sem]) rfl (by rw [HN.out]; exact ⟨_, _, _, _, _, rfl, HB.out⟩)
          · have c1 : ((u.toNat : Int) - 48 < 0) = False := eq_false (by omega)
            have c2 : (7 < (u.toNat : Int) - 48) = False := eq_false (by omega)
            have HV2 : Aside0 (octNat 2 t 4 = octNat (2 - (j + 1)) (t.drop (j + 1)) (v * 8 + (u.toNat - 48))) := ⟨by rw [HV.out, HST.out, show octV u = some (u.toNat - 48) by unfold octV; rw [if_pos (by omega)]]⟩
            have hor := or8 v (u.toNat - 48) (by have : 8 ^ (j + 1) ≤ 8 ^ 2 := Nat.pow_le_pow_right (by omega) (by omega); omega) (by omega)
            have hsub : (((u.toNat - 48 : Nat) : Int)) = (u.toNat : Int) - 48 := by omega
            rw [hsub] at hor
            have hv2 : v * 8 + (u.toNat - 48) < 8 ^ (j + 1 + 1) := by rw [Nat.pow_succ]; omega
            go_wp2
            go_roundw
            case rel => exact ⟨j + 1, v * 8 + (u.toNat - 48), rfl, by omega, by simp, by simp; omega, hv2, HV2, HB, hE⟩
            case measure => simp [RowKit.intOf]; omega
      · obtain rfl : j = 2 := by omega
        have hq : (((2 : Nat) : Int) < 2) = False := eq_false (by omega)
        have HD : Aside0 (s2.extract 2 t.length = mk (t.drop 2)) := ⟨by rw [HS2.out]; exact mk_drop t 2 _ rfl⟩
        have hms : (2 : Int) ≤ (t.length : Int) := by omega
        have hmn : 2 ≤ t.length := by omega
        have HH : Aside0 (octNat 2 t 4 = some v) := ⟨HV.out.trans (by rfl)⟩
        clear HV
        by_cases h255 : v ≤ 255
        · have c3 : (255 < (v : Int)) = False := eq_false (by omega)
          have HO : Aside0 (octR 4 t = some (v, false, t.drop 2)) := ⟨by unfold octR; rw [HH.out]; simp only; rw [if_pos h255]⟩
          go_wp2
          exact bodyPost_ret (v := .tuple #[.int .i32 (v : Int), .bool false, .string (s2.extract 2 t.length), .nilIface]) (by simp [results, Tryz.results160, go_sem]) rfl (by rw [HO.out, HD.out]; exact ⟨rfl, HB.out⟩)
        · have c3 : (255 < (v : Int)) = True := eq_true (by omega)
          have HN : Aside0 (octR 4 t = (none : Option (Nat × Bool × List UInt8))) := ⟨by unfold octR; rw [HH.out]; simp only; rw [if_neg h255]⟩
          go_wp2
          exact bodyPost_ret (v := .tuple #[.int .i32 0, .bool false, .string ⟨#[]⟩, .iface et ep]) (by simp [results, Tryz.results160, go_sem]) rfl (by rw [HN.out]; exact ⟨_, _, _, _, _, rfl, HB.out⟩)
set_option maxRecDepth 100000 in
set_option maxHeartbeats 2000000 in
theorem uqc_o53 (d : UInt8) (hd : d = 53) (t : List UInt8) (hl : t.length ≤ 4294967296) (w : World) (he : IsE w 17) :
    Calls Tryz.prog 160 #[.string (mk (92 :: d :: t)), .int .u8 34] w fun e w' => UqP w w' (octR 5 t) e := by
  obtain ⟨et, ep, hE⟩ := he
  have HB := Aside0.mk (Below.refl w.heap.size w)
  have hz : (mk (92 :: d :: t)).size = t.length + 2 := by rw [mk_size]; rfl
  have e0 : ∀ h, (mk (92 :: d :: t))[0]'h = 92 := fun _ => rfl
  have e1 : ∀ h, (mk (92 :: d :: t))[1]'h = d := fun _ => rfl
  have HS : Aside0 ((mk (92 :: d :: t)).extract 2 (t.length + 2) = mk t) := ⟨mk_drop _ _ _ (by simp)⟩
  obtain ⟨s2, hs2⟩ : ∃ s2, s2 = mk t := ⟨_, rfl⟩
  rw [← hs2] at HS
  have HS2 := Aside0.mk hs2
  have hz2 : s2.size = t.length := by rw [hs2, mk_size]
  clear hs2
  generalize mk (92 :: d :: t) = s at *
  subst hd
  by_cases hn : t.length < 2
  · have HN : Aside0 (octR 5 t = (none : Option (Nat × Bool × List UInt8))) := ⟨by unfold octR; rw [octNat_short _ _ _ hn]⟩
    have hlt : ((t.length : Int) < 2) = True := eq_true (by omega)
    go_enter Tryz.func160, Tryz.ntmps160
    go_wp2
    exact bodyPost_ret (v := .tuple #[.int .i32 0, .bool false, .string ⟨#[]⟩, .iface et ep]) (by simp [results, Tryz.results160, go_sem]) rfl (by rw [HN.out]; exact ⟨_, _, _, _, _, rfl, HB.out⟩)
  · have hlt : ((t.length : Int) < 2) = False := eq_false (by omega)
    go_enter Tryz.func160, Tryz.ntmps160
    go_wp2
    rw [HS.out]
    go_loopw [7, 17, 18] (fun v7 v17 v18 wr => ∃ (j v : Nat), v7 = .nilIface ∧ j ≤ 2 ∧ v18 = .int .i64 j ∧ v17 = .int .i32 (v : Int) ∧ v < 8 ^ (j + 1) ∧ Aside0 (octNat 2 t 5 = octNat (2 - j) (t.drop j) v) ∧ Aside0 (Below w.heap.size w wr) ∧ wr.cell? ⟨17, 0, none⟩ = some (.iface et ep)) (fun _ _ v18 _ => (2 - RowKit.intOf v18).toNat)
    case atStart => exact ⟨0, 5, rfl, by omega, rfl, rfl, by omega, ⟨rfl⟩, HB, hE⟩
    case round =>
      clear HB hE
      obtain ⟨j, v, rfl, hj, rfl, rfl, hv, HV, HB, hE⟩ := hrel
      by_cases hjn : j < 2
      · have hq : ((j : Int) < 2) = True := eq_true (by omega)
        have hjt : j < t.length := by omega
        have hjs : j < s2.size := by omega
        have ej : ∀ h, s2[j]'h = t[j] := by have := HS2.out; subst this; exact fun _ => rfl
        have hst : octNat (2 - j) (t.drop j) v = match octV t[j] with
          | none => none
          | some x => octNat (2 - (j + 1)) (t.drop (j + 1)) (v * 8 + x) := by
          have e : 2 - j = (2 - (j + 1)) + 1 := by omega
          rw [e, List.drop_eq_getElem_cons hjt, octNat]
          cases octV t[j] <;> rfl
        have HST := Aside0.mk hst
        clear hst
        generalize t[j] = u at *
        have hu := UInt8.toNat_lt u
        have hw1 : wrap32 (u.toNat : Int) = u.toNat := by unfold wrap32; omega
        have hw2 : wrap32 ((u.toNat : Int) - 48) = (u.toNat : Int) - 48 := by unfold wrap32; omega
        by_cases h1 : u.toNat < 48
        · have HN : Aside0 (octR 5 t = (none : Option (Nat × Bool × List UInt8))) := ⟨by unfold octR; rw [HV.out, HST.out, show octV u = none by unfold octV; rw [if_neg (by omega)]]⟩
          have c1 : ((u.toNat : Int) - 48 < 0) = True := eq_true (by omega)
          go_wp2
          exact bodyPost_ret (v := .tuple #[.int .i32 0, .bool false, .string ⟨#[]⟩, .iface et ep]) (by simp [results, Tryz.results160, go_sem]) rfl (by rw [HN.out]; exact ⟨_, _, _, _, _, rfl, HB.out⟩)
        · by_cases h2 : 55 < u.toNat
          · have HN : Aside0 (octR 5 t = (none : Option (Nat × Bool × List UInt8))) := ⟨by unfold octR; rw [HV.out, HST.out, show octV u = none by unfold octV; rw [if_neg (by omega)]]⟩
            have c1 : ((u.toNat : Int) - 48 < 0) = False := eq_false (by omega)
            have c2 : (7 < (u.toNat : Int) - 48) = True := eq_true (by omega)
            go_wp2
            exact bodyPost_ret (v := .tuple #[.int .i32 0, .bool false, .string ⟨#[]⟩, .iface et ep]) (by simp [results, Tryz.results160, go_sem]) rfl (by rw [HN.out]; exact ⟨_, _, _, _, _, rfl, HB.out⟩)
          · have c1 : ((u.toNat : Int) - 48 < 0) = False := eq_false (by omega)
            have c2 : (7 < (u.toNat : Int) - 48) = False := eq_false (by omega)
            have HV2 : Aside0 (octNat 2 t 5 = octNat (2 - (j + 1)) (t.drop (j + 1)) (v * 8 + (u.toNat - 48))) := ⟨by rw [HV.out, HST.out, show octV u = some (u.toNat - 48) by unfold octV; rw [if_pos (by omega)]]⟩
            have hor := or8 v (u.toNat - 48) (by have : 8 ^ (j + 1) ≤ 8 ^ 2 := Nat.pow_le_pow_right (by omega) (by omega); omega) (by omega)
            have hsub : (((u.toNat - 48 : Nat) : Int)) = (u.toNat : Int) - 48 := by omega
            rw [hsub] at hor
            have hv2 : v * 8 + (u.toNat - 48) < 8 ^ (j + 1 + 1) := by rw [Nat.pow_succ]; omega
            go_wp2
            go_roundw
            case rel => exact ⟨j + 1, v * 8 + (u.toNat - 48), rfl, by omega, by simp, by simp; omega, hv2, HV2, HB, hE⟩
            case measure => simp [RowKit.intOf]; omega
      · obtain rfl : j = 2 := by omega
        have hq : (((2 : Nat) : Int) < 2) = False := eq_false (by omega)
        have HD : Aside0 (s2.extract 2 t.length = mk (t.drop 2)) := ⟨by rw [HS2.out]; exact mk_drop t 2 _ rfl⟩
        have hms : (2 : Int) ≤ (t.length : Int) := by omega
        have hmn : 2 ≤ t.length := by omega
        have HH : Aside0 (octNat 2 t 5 = some v) := ⟨HV.out.trans (by rfl)⟩
        clear HV
        by_cases h255 : v ≤ 255
        · have c3 : (255 < (v : Int)) = False := eq_false (by omega)
          have HO : Aside0 (octR 5 t = some (v, false, t.drop 2)) := ⟨by unfold octR; rw [HH.out]; simp only; rw [if_pos h255]⟩
          go_wp2
          exact bodyPost_ret (v := .tuple #[.int .i32 (v : Int), .bool false, .string (s2.extract 2 t.length), .nilIface]) (by simp [results, Tryz.results160, go_sem]) rfl (by rw [HO.out, HD.out]; exact ⟨rfl, HB.out⟩)
        · have c3 : (255 < (v : Int)) = True := eq_true (by omega)
          have HN : Aside0 (octR 5 t = (none : Option (Nat × Bool × List UInt8))) := ⟨by unfold octR; rw [HH.out]; simp only; rw [if_neg h255]⟩
          go_wp2
          exact bodyPost_ret (v := .tuple #[.int .i32 0, .bool false, .string ⟨#[]⟩, .iface et ep]) (by simp [results, Tryz.results160, go_sem]) rfl (by rw [HN.out]; exact ⟨_, _, _, _, _, rfl, HB.out⟩)
set_option maxRecDepth 100000 in
set_option maxHeartbeats 2000000 in
theorem uqc_o54 (d : UInt8) (hd : d = 54) (t : List UInt8) (hl : t.length ≤ 4294967296) (w : World) (he : IsE w 17) :
    Calls Tryz.prog 160 #[.string (mk (92 :: d :: t)), .int .u8 34] w fun e w' => UqP w w' (octR 6 t) e := by
  obtain ⟨et, ep, hE⟩ := he
  have HB := Aside0.mk (Below.refl w.heap.size w)
  have hz : (mk (92 :: d :: t)).size = t.length + 2 := by rw [mk_size]; rfl
  have e0 : ∀ h, (mk (92 :: d :: t))[0]'h = 92 := fun _ => rfl
  have e1 : ∀ h, (mk (92 :: d :: t))[1]'h = d := fun _ => rfl
  have HS : Aside0 ((mk (92 :: d :: t)).extract 2 (t.length + 2) = mk t) := ⟨mk_drop _ _ _ (by simp)⟩
  obtain ⟨s2, hs2⟩ : ∃ s2, s2 = mk t := ⟨_, rfl⟩
  rw [← hs2] at HS
  have HS2 := Aside0.mk hs2
  have hz2 : s2.size = t.length := by rw [hs2, mk_size]
  clear hs2
  generalize mk (92 :: d :: t) = s at *
  subst hd
  by_cases hn : t.length < 2
  · have HN : Aside0 (octR 6 t = (none : Option (Nat × Bool × List UInt8))) := ⟨by unfold octR; rw [octNat_short _ _ _ hn]⟩
    have hlt : ((t.length : Int) < 2) = True := eq_true (by omega)
    go_enter Tryz.func160, Tryz.ntmps160
    go_wp2
    exact bodyPost_ret (v := .tuple #[.int .i32 0, .bool false, .string ⟨#[]⟩, .iface et ep]) (by simp [results, Tryz.results160, go_sem]) rfl (by rw [HN.out]; exact ⟨_, _, _, _, _, rfl, HB.out⟩)
  · have hlt : ((t.length : Int) < 2) = False := eq_false (by omega)
    go_enter Tryz.func160, Tryz.ntmps160
    go_wp2
    rw [HS.out]
    go_loopw [7, 17, 18] (fun v7 v17 v18 wr => ∃ (j v : Nat), v7 = .nilIface ∧ j ≤ 2 ∧ v18 = .int .i64 j ∧ v17 = .int .i32 (v : Int) ∧ v < 8 ^ (j + 1) ∧ Aside0 (octNat 2 t 6 = octNat (2 - j) (t.drop j) v) ∧ Aside0 (Below w.heap.size w wr) ∧ wr.cell? ⟨17, 0, none⟩ = some (.iface et ep)) (fun _ _ v18 _ => (2 - RowKit.intOf v18).toNat)
    case atStart => exact ⟨0, 6, rfl, by omega, rfl, rfl, by omega, ⟨rfl⟩, HB, hE⟩
    case round =>
      clear HB hE
      obtain ⟨j, v, rfl, hj, rfl, rfl, hv, HV, HB, hE⟩ := hrel
      by_cases hjn : j < 2
      · have hq : ((j : Int) < 2) = True := eq_true (by omega)
        have hjt : j < t.length := by omega
        have hjs : j < s2.size := by omega
        have ej : ∀ h, s2[j]'h = t[j] := by have := HS2.out; subst this; exact fun _ => rfl
        have hst : octNat (2 - j) (t.drop j) v = match octV t[j] with
          | none => none
          | some x => octNat (2 - (j + 1)) (t.drop (j + 1)) (v * 8 + x) := by
          have e : 2 - j = (2 - (j + 1)) + 1 := by omega
          rw [e, List.drop_eq_getElem_cons hjt, octNat]
          cases octV t[j] <;> rfl
        have HST := Aside0.mk hst
        clear hst
        generalize t[j] = u at *
        have hu := UInt8.toNat_lt u
        have hw1 : wrap32 (u.toNat : Int) = u.toNat := by unfold wrap32; omega
        have hw2 : wrap32 ((u.toNat : Int) - 48) = (u.toNat : Int) - 48 := by unfold wrap32; omega
        by_cases h1 : u.toNat < 48
        · have HN : Aside0 (octR 6 t = (none : Option (Nat × Bool × List UInt8))) := ⟨by unfold octR; rw [HV.out, HST.out, show octV u = none by unfold octV; rw [if_neg (by omega)]]⟩
          have c1 : ((u.toNat : Int) - 48 < 0) = True := eq_true (by omega)
          go_wp2
          exact bodyPost_ret (v := .tuple #[.int .i32 0, .bool false, .string ⟨#[]⟩, .iface et ep]) (by simp [results, Tryz.results160, go_sem]) rfl (by rw [HN.out]; exact ⟨_, _, _, _, _, rfl, HB.out⟩)
        · by_cases h2 : 55 < u.toNat
          · have HN : Aside0 (octR 6 t = (none : Option (Nat × Bool × List UInt8))) := ⟨by unfold octR; rw [HV.out, HST.out, show octV u = none by unfold octV; rw [if_neg (by omega)]]⟩
            have c1 : ((u.toNat : Int) - 48 < 0) = False := eq_false (by omega)
            have c2 : (7 < (u.toNat : Int) - 48) = True := eq_true (by omega)
            go_wp2
            exact bodyPost_ret (v := .tuple #[.int .i32 0, .bool false, .string ⟨#[]⟩, .iface et ep]) (by simp [results, Tryz.results160, go_sem]) rfl (by rw [HN.out]; exact ⟨_, _, _, _, _, rfl, HB.out⟩)
          · have c1 : ((u.toNat : Int) - 48 < 0) = False := eq_false (by omega)
            have c2 : (7 < (u.toNat : Int) - 48) = False := eq_false (by omega)
            have HV2 : Aside0 (octNat 2 t 6 = octNat (2 - (j + 1)) (t.drop (j + 1)) (v * 8 + (u.toNat - 48))) := ⟨by rw [HV.out, HST.out, show octV u = some (u.toNat - 48) by unfold octV; rw [if_pos (by omega)]]⟩
            have hor := or8 v (u.toNat - 48) (by have : 8 ^ (j + 1) ≤ 8 ^ 2 := Nat.pow_le_pow_right (by omega) (by omega); omega) (by omega)
            have hsub : (((u.toNat - 48 : Nat) : Int)) = (u.toNat : Int) - 48 := by omega
            rw [hsub] at hor
            have hv2 : v * 8 + (u.toNat - 48) < 8 ^ (j + 1 + 1) := by rw [Nat.pow_succ]; omega
            go_wp2
            go_roundw
            case rel => exact ⟨j + 1, v * 8 + (u.toNat - 48), rfl, by omega, by simp, by simp; omega, hv2, HV2, HB, hE⟩
            case measure => simp [RowKit.intOf]; omega
      · obtain rfl : j = 2 := by omega
        have hq : (((2 : Nat) : Int) < 2) = False := eq_false (by omega)
        have HD : Aside0 (s2.extract 2 t.length = mk (t.drop 2)) := ⟨by rw [HS2.out]; exact mk_drop t 2 _ rfl⟩
        have hms : (2 : Int) ≤ (t.length : Int) := by omega
        have hmn : 2 ≤ t.length := by omega
        have HH : Aside0 (octNat 2 t 6 = some v) := ⟨HV.out.trans (by rfl)⟩
        clear HV
        by_cases h255 : v ≤ 255
        · have c3 : (255 < (v : Int)) = False := eq_false (by omega)
          have HO : Aside0 (octR 6 t = some (v, false, t.drop 2)) := ⟨by unfold octR; rw [HH.out]; simp only; rw [if_pos h255]⟩
          go_wp2
          exact bodyPost_ret (v := .tuple #[.int .i32 (v : Int), .bool false, .string (s2.extract 2 t.length), .nilIface]) (by simp [results, Tryz.results160, go_sem]) rfl (by rw [HO.out, HD.out]; exact ⟨rfl, HB.out⟩)
        · have c3 : (255 < (v : Int)) = True := eq_true (by omega)
          have HN : Aside0 (octR 6 t = (none : Option (Nat × Bool × List UInt8))) := ⟨by unfold octR; rw [HH.out]; simp only; rw [if_neg h255]⟩
          go_wp2
          exact bodyPost_ret (v := .tuple #[.int .i32 0, .bool false, .string ⟨#[]⟩, .iface et ep]) (by simp [results, Tryz.results160, go_sem]) rfl (by rw [HN.out]; exact ⟨_, _, _, _, _, rfl, HB.out⟩)
set_option maxRecDepth 100000 in
set_option maxHeartbeats 2000000 in
theorem uqc_o55 (d : UInt8) (hd : d = 55) (t : List UInt8) (hl : t.length ≤ 4294967296) (w : World) (he : IsE w 17) :
    Calls Tryz.prog 160 #[.string (mk (92 :: d :: t)), .int .u8 34] w fun e w' => UqP w w' (octR 7 t) e := by
  obtain ⟨et, ep, hE⟩ := he
  have HB := Aside0.mk (Below.refl w.heap.size w)
  have hz : (mk (92 :: d :: t)).size = t.length + 2 := by rw [mk_size]; rfl
  have e0 : ∀ h, (mk (92 :: d :: t))[0]'h = 92 := fun _ => rfl
  have e1 : ∀ h, (mk (92 :: d :: t))[1]'h = d := fun _ => rfl
  have HS : Aside0 ((mk (92 :: d :: t)).extract 2 (t.length + 2) = mk t) := ⟨mk_drop _ _ _ (by simp)⟩
  obtain ⟨s2, hs2⟩ : ∃ s2, s2 = mk t := ⟨_, rfl⟩
  rw [← hs2] at HS
  have HS2 := Aside0.mk hs2
  have hz2 : s2.size = t.length := by rw [hs2, mk_size]
  clear hs2
  generalize mk (92 :: d :: t) = s at *
  subst hd
  by_cases hn : t.length < 2
  · have HN : Aside0 (octR 7 t = (none : Option (Nat × Bool × List UInt8))) := ⟨by unfold octR; rw [octNat_short _ _ _ hn]⟩
    have hlt : ((t.length : Int) < 2) = True := eq_true (by omega)
    go_enter Tryz.func160, Tryz.ntmps160
    go_wp2
    exact bodyPost_ret (v := .tuple #[.int .i32 0, .bool false, .string ⟨#[]⟩, .iface et ep]) (by simp [results, Tryz.results160, go_sem]) rfl (by rw [HN.out]; exact ⟨_, _, _, _, _, rfl, HB.out⟩)
  · have hlt : ((t.length : Int) < 2) = False := eq_false (by omega)
    go_enter Tryz.func160, Tryz.ntmps160
    go_wp2
    rw [HS.out]
    go_loopw [7, 17, 18] (fun v7 v17 v18 wr => ∃ (j v : Nat), v7 = .nilIface ∧ j ≤ 2 ∧ v18 = .int .i64 j ∧ v17 = .int .i32 (v : Int) ∧ v < 8 ^ (j + 1) ∧ Aside0 (octNat 2 t 7 = octNat (2 - j) (t.drop j) v) ∧ Aside0 (Below w.heap.size w wr) ∧ wr.cell? ⟨17, 0, none⟩ = some (.iface et ep)) (fun _ _ v18 _ => (2 - RowKit.intOf v18).toNat)
    case atStart => exact ⟨0, 7, rfl, by omega, rfl, rfl, by omega, ⟨rfl⟩, HB, hE⟩
    case round =>
      clear HB hE
      obtain ⟨j, v, rfl, hj, rfl, rfl, hv, HV, HB, hE⟩ := hrel
      by_cases hjn : j < 2
      · have hq : ((j : Int) < 2) = True := eq_true (by omega)
        have hjt : j < t.length := by omega
        have hjs : j < s2.size := by omega
        have ej : ∀ h, s2[j]'h = t[j] := by have := HS2.out; subst this; exact fun _ => rfl
        have hst : octNat (2 - j) (t.drop j) v = match octV t[j] with
          | none => none
          | some x => octNat (2 - (j + 1)) (t.drop (j + 1)) (v * 8 + x) := by
          have e : 2 - j = (2 - (j + 1)) + 1 := by omega
          rw [e, List.drop_eq_getElem_cons hjt, octNat]
          cases octV t[j] <;> rfl
        have HST := Aside0.mk hst
        clear hst
        generalize t[j] = u at *
        have hu := UInt8.toNat_lt u
        have hw1 : wrap32 (u.toNat : Int) = u.toNat := by unfold wrap32; omega
        have hw2 : wrap32 ((u.toNat : Int) - 48) = (u.toNat : Int) - 48 := by unfold wrap32; omega
        by_cases h1 : u.toNat < 48
        · have HN : Aside0 (octR 7 t = (none : Option (Nat × Bool × List UInt8))) := ⟨by unfold octR; rw [HV.out, HST.out, show octV u = none by unfold octV; rw [if_neg (by omega)]]⟩
          have c1 : ((u.toNat : Int) - 48 < 0) = True := eq_true (by omega)
          go_wp2
          exact bodyPost_ret (v := .tuple #[.int .i32 0, .bool false, .string ⟨#[]⟩, .iface et ep]) (by simp [results, Tryz.results160, go_sem]) rfl (by rw [HN.out]; exact ⟨_, _, _, _, _, rfl, HB.out⟩)
        · by_cases h2 : 55 < u.toNat
          · have HN : Aside0 (octR 7 t = (none : Option (Nat × Bool × List UInt8))) := ⟨by unfold octR; rw [HV.out, HST.out, show octV u = none by unfold octV; rw [if_neg (by omega)]]⟩
            have c1 : ((u.toNat : Int) - 48 < 0) = False := eq_false (by omega)
            have c2 : (7 < (u.toNat : Int) - 48) = True := eq_true (by omega)
            go_wp2
            exact bodyPost_ret (v := .tuple #[.int .i32 0, .bool false, .string ⟨#[]⟩, .iface et ep]) (by simp [results, Tryz.results160, go_sem]) rfl (by rw [HN.out]; exact ⟨_, _, _, _, _, rfl, HB.out⟩)
          · have c1 : ((u.toNat : Int) - 48 < 0) = False := eq_false (by omega)
            have c2 : (7 < (u.toNat : Int) - 48) = False := eq_false (by omega)
            have HV2 : Aside0 (octNat 2 t 7 = octNat (2 - (j + 1)) (t.drop (j + 1)) (v * 8 + (u.toNat - 48))) := ⟨by rw [HV.out, HST.out, show octV u = some (u.toNat - 48) by unfold octV; rw [if_pos (by omega)]]⟩
            have hor := or8 v (u.toNat - 48) (by have : 8 ^ (j + 1) ≤ 8 ^ 2 := Nat.pow_le_pow_right (by omega) (by omega); omega) (by omega)
            have hsub : (((u.toNat - 48 : Nat) : Int)) = (u.toNat : Int) - 48 := by omega
            rw [hsub] at hor
            have hv2 : v * 8 + (u.toNat - 48) < 8 ^ (j + 1 + 1) := by rw [Nat.pow_succ]; omega
            go_wp2
            go_roundw
            case rel => exact ⟨j + 1, v * 8 + (u.toNat - 48), rfl, by omega, by simp, by simp; omega, hv2, HV2, HB, hE⟩
            case measure => simp [RowKit.intOf]; omega
      · obtain rfl : j = 2 := by omega
        have hq : (((2 : Nat) : Int) < 2) = False := eq_false (by omega)
        have HD : Aside0 (s2.extract 2 t.length = mk (t.drop 2)) := ⟨by rw [HS2.out]; exact mk_drop t 2 _ rfl⟩
        have hms : (2 : Int) ≤ (t.length : Int) := by omega
        have hmn : 2 ≤ t.length := by omega
        have HH : Aside0 (octNat 2 t 7 = some v) := ⟨HV.out.trans (by rfl)⟩
        clear HV
        by_cases h255 : v ≤ 255
        · have c3 : (255 < (v : Int)) = False := eq_false (by omega)
          have HO : Aside0 (octR 7 t = some (v, false, t.drop 2)) := ⟨by unfold octR; rw [HH.out]; simp only; rw [if_pos h255]⟩
          go_wp2
          exact bodyPost_ret (v := .tuple #[.int .i32 (v : Int), .bool false, .string (s2.extract 2 t.length), .nilIface]) (by simp [results, Tryz.results160, go_sem]) rfl (by rw [HO.out, HD.out]; exact ⟨rfl, HB.out⟩)
        · have c3 : (255 < (v : Int)) = True := eq_true (by omega)
          have HN : Aside0 (octR 7 t = (none : Option (Nat × Bool × List UInt8))) := ⟨by unfold octR; rw [HH.out]; simp only; rw [if_neg h255]⟩
          go_wp2
          exact bodyPost_ret (v := .tuple #[.int .i32 0, .bool false, .string ⟨#[]⟩, .iface et ep]) (by simp [results, Tryz.results160, go_sem]) rfl (by rw [HN.out]; exact ⟨_, _, _, _, _, rfl, HB.out⟩)
end Go.Proofs.YtnnhehlieakedaaGreatDoor.Q
namespace Go.Proofs.YtnnhehlieakedaaGreatDoor.Q
open Go.RowKit Go.Lib Go.Proofs.YtnnhehlieakedaaGreatDoorW.PrintWords Go.Proofs.YtnnhehlieakedaaGreatDoorW.PrintLast Go.Proofs.YtnnhehlieakedaaGreatDoorW.PrintMore
theorem u8ne {c : UInt8} {k : Nat} (hk : k < 256) (h : c ≠ UInt8.ofNat k) : (c.toNat : Int) ≠ (k : Int) := fun e => h (by
  apply UInt8.toNat_inj.1
  have h2 : (UInt8.ofNat k).toNat = k := by simp; omega
  omega)
theorem unquoteChar_calls (c : UInt8) (t : List UInt8) (hc : c ≠ 34) (hl : t.length ≤ 4294967296) (w : World) (tb : TBl w) (he : IsE w 17) :
    Calls Tryz.prog 160 #[.string (mk (c :: t)), .int .u8 34] w fun e w' => UqP w w' (uqC (c :: t)) e := by
  by_cases h1 : 128 ≤ c.toNat
  · exact uqc_high c t h1 hl w tb
  by_cases h2 : c = 92
  case neg => exact uqc_plain c t (by omega) hc h2 hl w
  subst h2
  cases t with
  | nil => exact uqc_last w he
  | cons d t =>
    have hl' : t.length ≤ 4294967296 := by simp at hl; omega
    have hu : uqC (92 :: d :: t) = escC d t := rfl
    rw [hu]
    by_cases k : d = 97
    · subst k; exact uqc_esc97 t hl' w he
    by_cases k2 : d = 98
    · subst k2; exact uqc_esc98 t hl' w he
    by_cases k3 : d = 102
    · subst k3; exact uqc_esc102 t hl' w he
    by_cases k4 : d = 110
    · subst k4; exact uqc_esc110 t hl' w he
    by_cases k5 : d = 114
    · subst k5; exact uqc_esc114 t hl' w he
    by_cases k6 : d = 116
    · subst k6; exact uqc_esc116 t hl' w he
    by_cases k7 : d = 118
    · subst k7; exact uqc_esc118 t hl' w he
    by_cases k8 : d = 120
    · have e : escC d t = hexX 2 t := by subst k8; rfl
      rw [e]; exact uqc_x d k8 t hl' w he
    by_cases k9 : d = 117
    · have e : escC d t = hexR 4 t := by subst k9; rfl
      rw [e]; exact uqc_u d k9 t hl' w he
    by_cases k10 : d = 85
    · have e : escC d t = hexR 8 t := by subst k10; rfl
      rw [e]; exact uqc_U d k10 t hl' w he
    by_cases o0 : d = 48
    · have e : escC d t = octR 0 t := by subst o0; rfl
      rw [e]; exact uqc_o48 d o0 t hl' w he
    by_cases o1 : d = 49
    · have e : escC d t = octR 1 t := by subst o1; rfl
      rw [e]; exact uqc_o49 d o1 t hl' w he
    by_cases o2 : d = 50
    · have e : escC d t = octR 2 t := by subst o2; rfl
      rw [e]; exact uqc_o50 d o2 t hl' w he
    by_cases o3 : d = 51
    · have e : escC d t = octR 3 t := by subst o3; rfl
      rw [e]; exact uqc_o51 d o3 t hl' w he
    by_cases o4 : d = 52
    · have e : escC d t = octR 4 t := by subst o4; rfl
      rw [e]; exact uqc_o52 d o4 t hl' w he
    by_cases o5 : d = 53
    · have e : escC d t = octR 5 t := by subst o5; rfl
      rw [e]; exact uqc_o53 d o5 t hl' w he
    by_cases o6 : d = 54
    · have e : escC d t = octR 6 t := by subst o6; rfl
      rw [e]; exact uqc_o54 d o6 t hl' w he
    by_cases o7 : d = 55
    · have e : escC d t = octR 7 t := by subst o7; rfl
      rw [e]; exact uqc_o55 d o7 t hl' w he
    by_cases e92 : d = 92
    · subst e92; exact uqc_esc92 t hl' w he
    by_cases e34 : d = 34
    · subst e34; exact uqc_esc34 t hl' w he
    have hoct : ¬ (48 ≤ d.toNat ∧ d.toNat ≤ 55) := fun h => by
      have q0 := u8ne (k := 48) (by omega) o0
      have q1 := u8ne (k := 49) (by omega) o1
      have q2 := u8ne (k := 50) (by omega) o2
      have q3 := u8ne (k := 51) (by omega) o3
      have q4 := u8ne (k := 52) (by omega) o4
      have q5 := u8ne (k := 53) (by omega) o5
      have q6 := u8ne (k := 54) (by omega) o6
      have q7 := u8ne (k := 55) (by omega) o7
      omega
    have hn : escC d t = none := by
      unfold escC
      rw [if_neg k, if_neg k2, if_neg k3, if_neg k4, if_neg k5, if_neg k6, if_neg k7, if_neg k8, if_neg k9, if_neg k10, if_neg hoct, if_neg e92, if_neg e34]
    rw [hn]
    by_cases e39 : d = 39
    · subst e39; exact uqc_esc39 t hl' w he
    refine uqc_other d t (fun k' hk' => ?_) hl' w he
    simp only [knownE, List.mem_cons, List.not_mem_nil, or_false] at hk'
    rcases hk' with h | h | h | h | h | h | h | h | h | h | h | h | h | h | h | h | h | h | h | h | h <;> rw [h]
    · exact u8ne (k := 97) (by omega) k
    · exact u8ne (k := 98) (by omega) k2
    · exact u8ne (k := 102) (by omega) k3
    · exact u8ne (k := 110) (by omega) k4
    · exact u8ne (k := 114) (by omega) k5
    · exact u8ne (k := 116) (by omega) k6
    · exact u8ne (k := 118) (by omega) k7
    · exact u8ne (k := 120) (by omega) k8
    · exact u8ne (k := 117) (by omega) k9
    · exact u8ne (k := 85) (by omega) k10
    · exact u8ne (k := 48) (by omega) o0
    · exact u8ne (k := 49) (by omega) o1
    · exact u8ne (k := 50) (by omega) o2
    · exact u8ne (k := 51) (by omega) o3
    · exact u8ne (k := 52) (by omega) o4
    · exact u8ne (k := 53) (by omega) o5
    · exact u8ne (k := 54) (by omega) o6
    · exact u8ne (k := 55) (by omega) o7
    · exact u8ne (k := 92) (by omega) e92
    · exact u8ne (k := 39) (by omega) e39
    · exact u8ne (k := 34) (by omega) e34
end Go.Proofs.YtnnhehlieakedaaGreatDoor.Q
namespace Go.Proofs
open Go.Shelf
def Tryz.laysValid_ren : Go.Shelf.Ren := ⟨fun | 196 => 145 | 259 => 156 | n => n, fun | 9 => 9 | 4 => 4 | 3 => 3 | 5 => 5 | 12 => 12 | 119 => 220 | 0 => 0 | 46 => 137 | 139 => 223 | 138 => 222 | 53 => 161 | n => n, fun | 3 => 10 | 4 => 11 | n => n⟩
theorem Tryz.laysValid : Go.Proofs.Lays.n196 Tryz.prog Tryz.laysValid_ren := {
  mixed := by kernel_rfl
  f196 := Tryz.func145.trans (congrArg some (by kernel_rfl))
  f259 := Tryz.func156.trans (congrArg some (by kernel_rfl))
  t0 := Tryz.underlying0
  a0 := Tryz.isAgg0
  z0 := Tryz.sizeOf0
  v0 := Tryz.zeroValue0
  t3 := Tryz.underlying3
  a3 := Tryz.isAgg3
  z3 := Tryz.sizeOf3
  v3 := Tryz.zeroValue3
  t4 := Tryz.underlying4
  a4 := Tryz.isAgg4
  z4 := Tryz.sizeOf4
  v4 := Tryz.zeroValue4
  t5 := Tryz.underlying5
  a5 := Tryz.isAgg5
  z5 := Tryz.sizeOf5
  v5 := Tryz.zeroValue5
  t9 := Tryz.underlying9
  a9 := Tryz.isAgg9
  z9 := Tryz.sizeOf9
  v9 := Tryz.zeroValue9
  t12 := Tryz.underlying12
  a12 := Tryz.isAgg12
  z12 := Tryz.sizeOf12
  v12 := Tryz.zeroValue12
  t46 := Tryz.underlying137
  a46 := Tryz.isAgg137
  z46 := Tryz.sizeOf137
  v46 := Tryz.zeroValue137
  t53 := Tryz.underlying161
  a53 := Tryz.isAgg161
  z53 := Tryz.sizeOf161
  v53 := Tryz.zeroValue161
  t119 := Tryz.underlying220
  a119 := Tryz.isAgg220
  z119 := Tryz.sizeOf220
  t138 := Tryz.underlying222
  a138 := Tryz.isAgg222
  z138 := Tryz.sizeOf222
  v138 := Tryz.zeroValue222
  t139 := Tryz.underlying223
  a139 := Tryz.isAgg223
  z139 := Tryz.sizeOf223
  v139 := Tryz.zeroValue223
  g3 := by kernel_rfl
  g4 := by kernel_rfl }
namespace YtnnhehlieakedaaGreatDoor.Q
open Go.RowKit Go.Proofs.YtnnhehlieakedaaGreatDoorW.PrintWords
def utf8_ValidString.f (a0 : ByteArray) : Option Bool := if a0.size ≤ 9223372036854775807 then some (Lib.validD a0.data.toList) else none
theorem utf8_ValidString.calls (a0 : ByteArray) (r : Bool) (w : World) (tb : TBu w) (h : utf8_ValidString.f a0 = some r) :
    Calls Tryz.prog 145 #[.string a0] w fun e w' => e = .returned (.bool r) ∧ Below w.heap.size w w' := by
  unfold utf8_ValidString.f at h
  split at h
  case isFalse => cases h
  case isTrue hs =>
  obtain rfl := Option.some.inj h
  exact Any.utf8_ValidString Tryz.laysValid a0 w hs tb
end YtnnhehlieakedaaGreatDoor.Q
end Go.Proofs
namespace Go.Proofs
open Go.Shelf
def Tryz.lays242_ren : Go.Shelf.Ren := ⟨fun | 242 => 130 | 278 => 150 | n => n, fun | 37 => 94 | 21 => 21 | 51 => 148 | 4 => 4 | 5 => 5 | 46 => 137 | n => n, fun | n => n⟩
theorem Tryz.lays242 : Go.Proofs.Lays.n242 Tryz.prog Tryz.lays242_ren := {
  mixed := by kernel_rfl
  f242 := Tryz.func130.trans (congrArg some (by kernel_rfl))
  f278 := Tryz.func150.trans (congrArg some (by kernel_rfl))
  t4 := Tryz.underlying4
  a4 := Tryz.isAgg4
  z4 := Tryz.sizeOf4
  v4 := Tryz.zeroValue4
  t5 := Tryz.underlying5
  a5 := Tryz.isAgg5
  z5 := Tryz.sizeOf5
  v5 := Tryz.zeroValue5
  t21 := Tryz.underlying21
  a21 := Tryz.isAgg21
  z21 := Tryz.sizeOf21
  v21 := Tryz.zeroValue21
  t37 := Tryz.underlying94
  a37 := Tryz.isAgg94
  z37 := Tryz.sizeOf94
  v37 := Tryz.zeroValue94
  t46 := Tryz.underlying137
  a46 := Tryz.isAgg137
  z46 := Tryz.sizeOf137
  v46 := Tryz.zeroValue137
  t51 := Tryz.underlying148
  a51 := Tryz.isAgg148
  z51 := Tryz.sizeOf148
  v51 := Tryz.zeroValue148 }
open Go.RowKit in
/-- unicode/utf8.AppendRune: "AppendRune appends the UTF-8 encoding of r to the end of p and returns the extended buffer. If the rune is out of range, it appends the encoding of RuneError.": ONTO A ROW OF BYTES THAT THE CALL OWNS (its head frozen or not): EVERY int32: 'Lib.runeCells r' goes in behind what the row holds; the world: one new block (the bytes as the call's variadic argument), then what 'append' does to the row. (LAID: no walk: one application.) -/
theorem Tryz.utf8_AppendRune_plain (B : Nat) (v : Value) (n : Nat) (xs : List Value) (r : Int) (hr0 : -2147483648 ≤ r) (hr1 : r ≤ 2147483647) (w : World) (hown : w.ownsRow B 5 1 v n xs) (hlen : n + 4 ≤ 140737488355328) (hBw : B ≤ w.heap.size) :
    Calls Tryz.prog 130 #[v, .int .i32 r] w fun e w' => ∃ v', e = .returned v' ∧ w'.ownsRow B 5 1 v' (n + (Lib.runeCells r).length) (xs ++ Lib.runeCells r) ∧ ∃ o, (w.alloc o).grownBy w' v.ownBlock := Any.utf8_AppendRune_plain Tryz.lays242 (by kernel_rfl) B v n xs r hr0 hr1 w hown hlen hBw
end Go.Proofs
namespace Go.Proofs.YtnnhehlieakedaaGreatDoor.Q
open Go.RowKit Go.Lib Go.Proofs.YtnnhehlieakedaaGreatDoorW.PrintWords Go.Proofs.YtnnhehlieakedaaGreatDoorW.PrintLast Go.Proofs.YtnnhehlieakedaaGreatDoorW.PrintMore
attribute [local go_sem] max2_int min2_int max_two min_two max_three min_three max_four min_four
/-- What unquote hands back. -/
def UnP (w w' : World) (o : Option (List UInt8 × List UInt8)) (e : Ending) : Prop := match o with
  | none => ∃ x t p, e = .returned (.tuple #[.string ⟨#[]⟩, .string x, .iface t p]) ∧ Below w.heap.size w w'
  | some (out, rem) => e = .returned (.tuple #[.string (mk out), .string (mk rem), .nilIface]) ∧ Below w.heap.size w w'
theorem infoU8q : (Tryz.prog.info? 5).map (fun i => (i.zero, i.size, i.bytes)) = some (some (.int .u8 0), 1, 1) := by kernel_rfl
def intsL (l : List UInt8) : List Int := l.map fun c => (c.toNat : Int)
def strLen : Value → Nat
  | .string x => x.size
  | _ => 0
theorem ints_strL (l : List UInt8) : strOfNums (intsL l) = mk l := by
  unfold strOfNums intsL mk
  rw [List.map_map]
  have e : ((fun n : Int => UInt8.ofNat n.toNat) ∘ fun c : UInt8 => (c.toNat : Int)) = id := by funext c; simp
  first | rw [e, List.map_id] | (simp [e])
theorem encR_len (r : Int) : (Lib.encodeRune r).length ≤ 4 := by
  unfold Lib.encodeRune
  rw [List.length_map]
  exact (Lib.encodeRuneZ_length r).2
theorem appendRuneQ_calls (B : Nat) (v : Value) (acc : List UInt8) (r : Int) (h0 : -2147483648 ≤ r) (h1 : r ≤ 2147483647) (w : World) (hown : w.ownsRow B 5 1 v acc.length (Lib.byteCells acc)) (hlen : acc.length + 4 ≤ 140737488355328) (hBw : B ≤ w.heap.size) :
    Calls Tryz.prog 130 #[v, .int .i32 r] w fun e w' => ∃ v', e = .returned v' ∧ w'.ownsRow B 5 1 v' (acc ++ Lib.encodeRune r).length (Lib.byteCells (acc ++ Lib.encodeRune r)) ∧ w.grownBy w' v.ownBlock := by
  refine (Tryz.utf8_AppendRune_plain B v acc.length (Lib.byteCells acc) r h0 h1 w hown hlen hBw).mono ?_
  rintro e w' ⟨v', rfl, ho, o, hg⟩
  rw [← Lib.byteCells_encodeRune, Lib.byteCells_length, ← List.length_append, ← Lib.byteCells_append] at ho
  refine ⟨v', rfl, ho, ?_⟩
  have ha := World.grownBy_alloc w o v.ownBlock
  exact ⟨hg.os.trans ha.os, hg.tape.trans ha.tape, hg.output.trans ha.output, Nat.le_trans ha.size hg.size, fun i hi hr => (hg.block i (Nat.lt_of_lt_of_le hi ha.size) hr).trans (ha.block i hi hr)⟩
theorem hexNat_lt : ∀ (n : Nat) (l : List UInt8) (v r : Nat), hexNat n l v = some r → r < (v + 1) * 16 ^ n
  | 0, _, v, r, h => by
    obtain rfl := Option.some.inj h
    omega
  | _ + 1, [], _, _, h => by cases h
  | n + 1, c :: l, v, r, h => by
    rw [hexNat] at h
    cases hx : hexV c with
    | none => rw [hx] at h; cases h
    | some x =>
      rw [hx] at h
      have h16 := hexV_lt hx
      have := hexNat_lt n l _ r h
      have h2 : (v * 16 + x + 1) * 16 ^ n ≤ ((v + 1) * 16) * 16 ^ n := Nat.mul_le_mul_right _ (by omega)
      rw [Nat.pow_succ, Nat.mul_comm (16 ^ n) 16, ← Nat.mul_assoc]
      omega
theorem uqC_less {c : UInt8} {t : List UInt8} {r : Nat} {mb : Bool} {rest : List UInt8} (h : uqC (c :: t) = some (r, mb, rest)) : rest.length < (c :: t).length ∧ r ≤ 2147483647 ∧ (mb = false → r < 256) := by
  unfold uqC at h
  simp only at h
  split at h
  · cases h
  split at h
  · rename_i h128
    obtain ⟨rfl, h2⟩ := Prod.mk.inj (Option.some.inj h)
    obtain ⟨rfl, rfl⟩ := Prod.mk.inj h2
    have hw := Lib.decodeL_width (c :: t)
    have hr := decode_le (mk (c :: t)) 0
    rw [← Lib.decodeL_drop] at hr
    have hr : (Lib.decodeL (c :: t)).1 ≤ 2147483647 := hr
    refine ⟨?_, hr, fun e => by cases e⟩
    rw [List.length_drop, List.length_cons]
    omega
  split at h
  · obtain ⟨rfl, h2⟩ := Prod.mk.inj (Option.some.inj h)
    obtain ⟨rfl, rfl⟩ := Prod.mk.inj h2
    have := UInt8.toNat_lt c
    exact ⟨by simp, by omega, fun _ => by omega⟩
  · cases t with
    | nil => cases h
    | cons d t =>
      have h : escC d t = some (r, mb, rest) := h
      have dr : ∀ n, (t.drop n).length ≤ t.length := fun n => by rw [List.length_drop]; omega
      have st : ∀ {r0 : Nat} {rest0 : List UInt8}, r0 < 256 → rest0.length ≤ t.length → some (r0, false, rest0) = some (r, mb, rest) → rest.length < (c :: d :: t).length ∧ r ≤ 2147483647 ∧ (mb = false → r < 256) := fun hr0 hl0 e => by
        obtain ⟨rfl, e2⟩ := Prod.mk.inj (Option.some.inj e)
        obtain ⟨rfl, rfl⟩ := Prod.mk.inj e2
        exact ⟨by simp; omega, by omega, fun _ => hr0⟩
      unfold escC at h
      by_cases k1 : d = 97
      · rw [if_pos k1] at h; exact st (by omega) (Nat.le_refl _) h
      rw [if_neg k1] at h
      by_cases k2 : d = 98
      · rw [if_pos k2] at h; exact st (by omega) (Nat.le_refl _) h
      rw [if_neg k2] at h
      by_cases k3 : d = 102
      · rw [if_pos k3] at h; exact st (by omega) (Nat.le_refl _) h
      rw [if_neg k3] at h
      by_cases k4 : d = 110
      · rw [if_pos k4] at h; exact st (by omega) (Nat.le_refl _) h
      rw [if_neg k4] at h
      by_cases k5 : d = 114
      · rw [if_pos k5] at h; exact st (by omega) (Nat.le_refl _) h
      rw [if_neg k5] at h
      by_cases k6 : d = 116
      · rw [if_pos k6] at h; exact st (by omega) (Nat.le_refl _) h
      rw [if_neg k6] at h
      by_cases k7 : d = 118
      · rw [if_pos k7] at h; exact st (by omega) (Nat.le_refl _) h
      rw [if_neg k7] at h
      by_cases k8 : d = 120
      · rw [if_pos k8] at h
        cases hx : hexNat 2 t 0 with
        | none => rw [hx] at h; cases h
        | some v =>
          rw [hx] at h
          exact st (by have := hexNat_lt 2 t 0 v hx; omega) (dr 2) h
      rw [if_neg k8] at h
      have big : ∀ n, (match hexNat n t 0 with
          | none => none
          | some v => if okRune v = true then some (v, true, t.drop n) else none) = some (r, mb, rest) → rest.length < (c :: d :: t).length ∧ r ≤ 2147483647 ∧ (mb = false → r < 256) := fun n h => by
        cases hx : hexNat n t 0 with
        | none => rw [hx] at h; cases h
        | some v =>
          rw [hx] at h
          simp only at h
          cases hok : okRune v with
          | false => rw [hok] at h; cases h
          | true =>
            rw [hok, if_pos rfl] at h
            obtain ⟨rfl, h2⟩ := Prod.mk.inj (Option.some.inj h)
            obtain ⟨rfl, rfl⟩ := Prod.mk.inj h2
            unfold okRune at hok
            have := of_decide_eq_true hok
            have := dr n
            exact ⟨by simp only [List.length_cons]; omega, by omega, fun e => by cases e⟩
      by_cases k9 : d = 117
      · rw [if_pos k9] at h; exact big 4 h
      rw [if_neg k9] at h
      by_cases k10 : d = 85
      · rw [if_pos k10] at h; exact big 8 h
      rw [if_neg k10] at h
      by_cases k11 : 48 ≤ d.toNat ∧ d.toNat ≤ 55
      · rw [if_pos k11] at h
        cases hx : octNat 2 t (d.toNat - 48) with
        | none => rw [hx] at h; cases h
        | some v =>
          rw [hx] at h
          simp only at h
          by_cases hv : v ≤ 255
          · rw [if_pos hv] at h; exact st (by omega) (dr 2) h
          · rw [if_neg hv] at h; cases h
      rw [if_neg k11] at h
      by_cases k12 : d = 92
      · rw [if_pos k12] at h; exact st (by omega) (Nat.le_refl _) h
      rw [if_neg k12] at h
      by_cases k13 : d = 34
      · rw [if_pos k13] at h; exact st (by omega) (Nat.le_refl _) h
      rw [if_neg k13] at h
      cases h
set_option maxRecDepth 100000 in
set_option maxHeartbeats 2000000 in
theorem unquote_calls0 (b : List UInt8) (hl : b.length ≤ 1000000000) (w : World) (tb : TBl w) (he : IsE w 17) :
    Calls Tryz.prog 155 #[.string (mk (34 :: b)), .bool true] w fun e w' => UnP w w' (unq1 (34 :: b)) e := by
  obtain ⟨et, ep, hE⟩ := he
  have HT := Aside0.mk tb
  have HB := Aside0.mk (Below.refl w.heap.size w)
  have hz : (mk (34 :: b)).size = b.length + 1 := by rw [mk_size]; rfl
  have e0 : ∀ h, (mk (34 :: b))[0]'h = 34 := fun _ => rfl
  have HS1 : Aside0 ((mk (34 :: b)).extract 1 (b.length + 1) = mk b) := ⟨mk_drop _ _ _ (by simp)⟩
  by_cases hb : b = []
  · subst hb
    have HN : Aside0 (unq1 [34] = none) := ⟨rfl⟩
    generalize mk [34] = s at *
    go_enter Tryz.func155, Tryz.ntmps155
    go_wp2
    go_region
    all_goals
      go_wp2
      exact bodyPost_ret (v := .tuple #[.string ⟨#[]⟩, .string (s), .iface et ep]) (by simp [results, Tryz.results155, go_sem]) rfl (by rw [HN.out]; exact ⟨_, _, _, rfl, by repeat (first | exact HB.out | apply below_drew)⟩)
  have hbl : 0 < b.length := List.length_pos_iff.2 hb
  have hbl2 : ((b.length : Int) + 1 < 2) = False := eq_false (by omega)
  by_cases hc : b.contains 34 = true
  case neg =>
    have hc' : b.contains 34 = false := by simpa using hc
    have HN : Aside0 (unq1 (34 :: b) = none) := ⟨by unfold unq1; rw [List.drop_one, List.tail_cons, if_neg hc]⟩
    have hx : Lib.indexByte b 34 = -1 := by rw [idxB_is, if_neg hc]
    have HX := Aside0.mk hx
    clear hc hc' hx hb
    generalize mk (34 :: b) = s at *
    go_enter Tryz.func155, Tryz.ntmps155
    go_wp2_with fail
    rw [HS1.out]
    refine (strIndex_calls (mk b) 34 _).mono ?_
    rintro e w1 ⟨rfl, hw11⟩
    obtain rfl : w = w1 := hw11.symm
    have e34 : ((34 : Int)).toNat.toUInt8 = 34 := rfl
    rw [e34, mk_data, HX.out]
    go_wp2
    go_region
    all_goals
      go_wp2
      exact bodyPost_ret (v := .tuple #[.string ⟨#[]⟩, .string (s), .iface et ep]) (by simp [results, Tryz.results155, go_sem]) rfl (by rw [HN.out]; exact ⟨_, _, _, rfl, by repeat (first | exact HB.out | apply below_drew)⟩)
  have hx : Lib.indexByte b 34 = ((b.idxOf 34 : Nat) : Int) := by rw [idxB_is, if_pos hc]
  have he34 : b.idxOf 34 < b.length := List.idxOf_lt_length_iff.2 (List.contains_iff_mem.1 hc)
  have hcut : (34 :: b).take (b.idxOf 34 + 2) = 34 :: b.take (b.idxOf 34 + 1) := rfl
  have HC : Aside0 ((mk (34 :: b)).extract 0 (b.idxOf 34 + 2) = mk (34 :: b.take (b.idxOf 34 + 1))) := ⟨by rw [mk_upto, hcut]⟩
  have HI : Aside0 ((mk (34 :: b)).extract 1 (b.idxOf 34 + 1) = mk (b.take (b.idxOf 34))) := ⟨by rw [mk_extract]; rfl⟩
  have HJ : Aside0 ((mk (34 :: b)).extract (b.idxOf 34 + 2) (b.length + 1) = mk (b.drop (b.idxOf 34 + 1))) := ⟨mk_drop _ _ _ (by simp)⟩
  have HK : Aside0 ((mk (34 :: b.take (b.idxOf 34 + 1))).extract 1 (b.idxOf 34 + 1) = mk (b.take (b.idxOf 34))) := ⟨by rw [mk_extract]; simp [List.take_take]⟩
  have hlast : b.take (b.idxOf 34 + 1) = b.take (b.idxOf 34) ++ [34] := by
    rw [List.take_succ_eq_append_getElem he34]
    congr 2
    exact List.getElem_idxOf he34
  have mem_cut : ∀ c : UInt8, c ≠ 34 → (inB (34 :: b.take (b.idxOf 34 + 1)) c = true ↔ c ∈ b.take (b.idxOf 34)) := fun c hc => by
    unfold inB
    rw [hlast, List.contains_iff_mem]
    simp [hc]
  obtain ⟨r92, h92⟩ : ∃ r, inB (34 :: b.take (b.idxOf 34 + 1)) 92 = r := ⟨_, rfl⟩
  obtain ⟨r10, h10⟩ : ∃ r, inB (34 :: b.take (b.idxOf 34 + 1)) 10 = r := ⟨_, rfl⟩
  obtain ⟨rv, hv⟩ : ∃ r, Lib.validD (b.take (b.idxOf 34)) = r := ⟨_, rfl⟩
  have hu : unq1 (34 :: b) = if (r92 = false ∧ r10 = false) ∧ rv = true then some (b.take (b.idxOf 34), b.drop (b.idxOf 34 + 1)) else unqL (b.length + 1) b [] := by
    unfold unq1
    rw [List.drop_one, List.tail_cons, if_pos hc]
    simp only
    have a1 : (92 ∉ b.take (b.idxOf 34)) ↔ r92 = false := by
      rw [← mem_cut 92 (by decide), h92]; cases r92 <;> simp
    have a2 : (10 ∉ b.take (b.idxOf 34)) ↔ r10 = false := by
      rw [← mem_cut 10 (by decide), h10]; cases r10 <;> simp
    simp only [a1, a2, hv]
    rfl
  have HU := Aside0.mk hu
  have H92 := Aside0.mk h92
  have H10 := Aside0.mk h10
  have HV := Aside0.mk hv
  have HX := Aside0.mk hx
  have hm : b.idxOf 34 < 1000000000 := by omega
  have hzc : (mk (34 :: b.take (b.idxOf 34 + 1))).size = b.idxOf 34 + 2 := by rw [mk_size, List.length_cons, List.length_take]; omega
  clear hu h92 h10 hv hx hlast mem_cut hcut hc hb
  generalize mk (34 :: b) = s at *
  generalize b.idxOf 34 = m at *
  generalize 34 :: b.take (m + 1) = C at *
  have hwm : wrap64 ((m : Int) + 2) = (m : Int) + 2 := by unfold wrap64; omega
  have hz0 : (s.extract 0 (m + 2)).size = m + 2 := by rw [HC.out]; exact hzc
  have hs4 : (m : Int) + 2 - 1 ≤ (m : Int) + 2 := by omega
  have hs1 : (1 : Int) ≤ (m : Int) + 2 - 1 := by omega
  have hs2 : (m : Int) + 2 - 1 ≤ (b.length : Int) + 1 := by omega
  have hs3 : ((m : Int) + 2 - 1).toNat = m + 1 := by omega
  go_enter Tryz.func155, Tryz.ntmps155
  go_wp2_with fail
  rw [HS1.out]
  refine (strIndex_calls (mk b) 34 _).mono ?_
  rintro e w1 ⟨rfl, hw11⟩
  obtain rfl : w = w1 := hw11.symm
  have e34 : ((34 : Int)).toNat.toUInt8 = 34 := rfl
  rw [e34, mk_data, HX.out]
  have hw2 : ¬ ((m : Int) < 0) := by omega
  go_wp2_with fail
  rw [HC.out]
  refine (strContains_calls C 92 _).mono ?_
  rintro e w2 ⟨rfl, hw12⟩
  obtain rfl : w = w2 := hw12.symm
  rw [H92.out]
  obtain ⟨iU, hiU, hzU, hsU, hbU⟩ := info_parts infoU8q
  cases r92 with
  | true =>
    have HBL := Aside0.mk (Below.refl w.heap.size w)
    have HU2 : Aside0 (unqL (b.length + 1) b [] = unq1 (34 :: b)) := ⟨by rw [HU.out]; simp⟩
    go_wp2_with (at_make; refine wpList_make_own _ rfl _ _ 94 rfl w.heap.size 5 iU _ 1 Tryz.underlying94 hiU hzU hsU .i64 .i64 _ (3 * (m + 2) / 2) rfl rfl ?aC (by rw [hbU]; omega) (by unfold maxLen; omega) ?aS ?_; (case aC => omega); (case aS => exact HBL.out.size); intro w9 ho9 hg9; have HV9 : Aside0 (Kd.R (Kd.int .u8) 5 w9 w.heap.size (fun _ => True) _ (intsL [])) := ⟨Kd.R_of_own (xs := ([] : List Int)) ho9 (fun _ _ => trivial)⟩; have HB9 := Aside0.mk (HBL.out.grown hg9 HBL.out.size (fun j hj => by cases hj)); clear ho9 hg9)
    try rw [HS1.out]
    clear hs1 hs2 hs3 hs4 hz0 hzc hwm hw2 hm HX HK HJ HI HC e34 HV H10 H92 hz e0 HS1 hbl2
    go_loopw [0, 14] (fun v0 v14 wr => ∃ (l acc : List UInt8) (k : Nat), v0 = .string (mk l) ∧ l.length < k ∧ l.length ≤ b.length ∧ acc.length ≤ 4 * (b.length - l.length) ∧ Aside0 (unqL k l acc = unq1 (34 :: b)) ∧ Aside0 (Kd.R (Kd.int .u8) 5 wr w.heap.size (fun _ => True) v14 (intsL acc)) ∧ Aside0 (Below w.heap.size w wr)) (fun v0 _ _ => strLen v0)
    case atStart => exact ⟨b, [], b.length + 1, rfl, Nat.lt_succ_self _, Nat.le_refl _, by simp, HU2, HV9, HB9⟩
    case round =>
      clear HB9 HV9 HBL HU HU2
      obtain ⟨l, acc, k, rfl, hlk, hlb, hal, HT2, HO, HBR⟩ := hrel
      obtain ⟨k, rfl⟩ : ∃ j, k = j + 1 := ⟨k - 1, by omega⟩
      have hEr := (HBR.out.cell (World.block_lt_of_cell? _ _ hE)).trans hE
      cases l with
      | nil =>
        have HN : Aside0 (unq1 (34 :: b) = none) := ⟨by rw [← HT2.out]; rfl⟩
        have hz : (mk []).size = 0 := rfl
        generalize mk [] = sl at *
        go_wp2
        go_region
        all_goals
          go_wp2
          exact bodyPost_ret (v := .tuple #[.string ⟨#[]⟩, .string s, .iface et ep]) (by simp [results, Tryz.results155, go_sem]) rfl (by rw [HN.out]; exact ⟨_, _, _, rfl, by repeat (first | exact HBR.out | apply below_drew)⟩)
      | cons c t =>
        have hz : (mk (c :: t)).size = t.length + 1 := by rw [mk_size]; rfl
        have e0 : ∀ h, (mk (c :: t))[0]'h = c := fun _ => rfl
        by_cases h34 : c = 34
        · subst h34
          have HY : Aside0 (unq1 (34 :: b) = some (acc, t)) := ⟨by rw [← HT2.out]; rfl⟩
          have HS9 : Aside0 ((mk (34 :: t)).extract 1 (t.length + 1) = mk t) := ⟨mk_drop _ _ _ (by simp)⟩
          obtain ⟨A9, c9, e9⟩ := Kd.R_slice HO.out
          subst e9
          have hcs := own_string (P := Tryz.prog) (src := 94) (dst := 9) (xs := intsL acc) Tryz.underlying94 Tryz.underlying5 Tryz.underlying9 (Kd.own_of_R HO.out)
          have HST : Aside0 (strOfNums (intsL acc) = mk acc) := ⟨ints_strL acc⟩
          generalize mk (34 :: t) = sl at *
          clear HO
          go_wp2
          exact bodyPost_ret (v := .tuple #[.string (strOfNums (intsL acc)), .string (sl.extract 1 (t.length + 1)), .nilIface]) (by simp [results, Tryz.results155, go_sem]) rfl (by rw [HY.out, HS9.out, HST.out]; exact ⟨rfl, HBR.out⟩)
        · have n34 : ((c.toNat : Int) != 34) = true := bne_iff_ne.2 (u8ne (k := 34) (by omega) h34)
          have HQ := Aside0.mk (unquoteChar_calls c t h34 (by simp at hlb; omega) wr ⟨HT.out.1.below HBR.out, HT.out.2.below HBR.out⟩ ⟨et, ep, hEr⟩)
          have HL : Aside0 (unqL (k + 1) (c :: t) acc = match uqC (c :: t) with
            | none => none
            | some (r, mb, rest) => if c = 10 then none else unqL k rest (acc ++ if r < 128 ∨ mb = false then [UInt8.ofNat r] else Lib.encodeRune (r : Int))) := ⟨by
            rw [unqL, if_neg (by simp), if_neg (by simp; exact h34)]
            cases uqC (c :: t) with
            | none => rfl
            | some q => simp⟩
          have HLS : Aside0 (∀ r mb rest, uqC (c :: t) = some (r, mb, rest) → rest.length < (c :: t).length ∧ r ≤ 2147483647 ∧ (mb = false → r < 256)) := ⟨fun r mb rest h => uqC_less h⟩
          have hlc : (c :: t).length = t.length + 1 := rfl
          rw [hlc] at hlk hlb hal
          cases hq : uqC (c :: t) with
          | none =>
            have HN : Aside0 (unq1 (34 :: b) = none) := ⟨by rw [← HT2.out, HL.out, hq]⟩
            rw [hq] at HQ
            generalize mk (c :: t) = sl at *
            go_wp2_with fail
            refine HQ.out.mono ?_
            rintro e w5 ⟨i5, b5, x5, t5, p5, rfl, hb5⟩
            have HB5 := Aside0.mk (HBR.out.trans (hb5.mono HBR.out.size))
            have hE5 := (hb5.cell (World.block_lt_of_cell? _ _ hEr)).trans hEr
            clear hb5 HQ
            by_cases h10 : c = 10
            · have n10 : ((c.toNat : Int) == 10) = true := by rw [h10]; rfl
              go_wp2
              go_region
              all_goals
                go_wp2
                exact bodyPost_ret (v := .tuple #[.string ⟨#[]⟩, .string s, .iface et ep]) (by simp [results, Tryz.results155, go_sem]) rfl (by rw [HN.out]; exact ⟨_, _, _, rfl, by repeat (first | exact HB5.out | apply below_drew)⟩)
            · have n10 : ((c.toNat : Int) == 10) = false := beq_eq_false_iff_ne.2 (u8ne (k := 10) (by omega) h10)
              go_wp2
              go_region
              all_goals
                go_wp2
                exact bodyPost_ret (v := .tuple #[.string ⟨#[]⟩, .string s, .iface et ep]) (by simp [results, Tryz.results155, go_sem]) rfl (by rw [HN.out]; exact ⟨_, _, _, rfl, by repeat (first | exact HB5.out | apply below_drew)⟩)
          | some q =>
            obtain ⟨r, mb, rest⟩ := q
            obtain ⟨hrl, hr31, hr8⟩ := HLS.out r mb rest hq
            rw [hlc] at hrl
            have HT3 : Aside0 ((if c = 10 then none else unqL k rest (acc ++ if r < 128 ∨ mb = false then [UInt8.ofNat r] else Lib.encodeRune (r : Int))) = unq1 (34 :: b)) := ⟨by rw [← HT2.out, HL.out, hq]⟩
            rw [hq] at HQ
            clear HL HLS HT2 hq
            have HSZ : Aside0 ((mk rest).size < (mk (c :: t)).size) := ⟨by rw [mk_size, mk_size]; exact hrl⟩
            generalize mk (c :: t) = sl at *
            go_wp2_with fail
            refine HQ.out.mono ?_
            rintro e w5 ⟨rfl, hb5⟩
            have HB5 := Aside0.mk (HBR.out.trans (hb5.mono HBR.out.size))
            have hE5 := (hb5.cell (World.block_lt_of_cell? _ _ hEr)).trans hEr
            have HO5 := Aside0.mk (Kd.R_below HO.out hb5)
            clear hb5 HQ HO
            by_cases h10 : c = 10
            · have n10 : ((c.toNat : Int) == 10) = true := by rw [h10]; rfl
              have HN : Aside0 (unq1 (34 :: b) = none) := ⟨by rw [← HT3.out, if_pos h10]⟩
              go_wp2
              go_region
              all_goals
                go_wp2
                exact bodyPost_ret (v := .tuple #[.string ⟨#[]⟩, .string s, .iface et ep]) (by simp [results, Tryz.results155, go_sem]) rfl (by rw [HN.out]; exact ⟨_, _, _, rfl, by repeat (first | exact HB5.out | apply below_drew)⟩)
            · have n10 : ((c.toNat : Int) == 10) = false := beq_eq_false_iff_ne.2 (u8ne (k := 10) (by omega) h10)
              rw [if_neg h10] at HT3
              obtain ⟨A9, c9, e9⟩ := Kd.R_slice HO5.out
              by_cases hsm : r < 128 ∨ mb = false
              · rw [if_pos hsm] at HT3
                have hr256 : r < 256 := by rcases hsm with h | h; omega; exact hr8 h
                have HLI : Aside0 (intsL acc ++ [(r : Int)] = intsL (acc ++ [UInt8.ofNat r])) := ⟨by unfold intsL; rw [List.map_append]; simp; omega⟩
                have hla : Aside0 ((intsL acc).length = acc.length) := ⟨by unfold intsL; rw [List.length_map]⟩
                have hcv : IntKind.u8.wrap (r : Int) = (r : Int) := by rw [show IntKind.u8.wrap (r : Int) = (r : Int) % 256 from IntKind.wrap_u8 _]; omega
                have h128 : ((r : Int) < 128 ∨ mb = false) := by rcases hsm with h | h; exact .inl (by omega); exact .inr h
                by_cases hlo : r < 128
                · have hlo' : ((r : Int) < 128) = True := eq_true (by omega)
                  subst e9
                  go_wp2_with (at_builtin; refine Kd.R_append (Kd.int .u8) (w0 := w) w.heap.size rfl (.tmp 186) (.tmp 189) 94 5 (.int .u8 0) 1 rfl Tryz.underlying94 infoU8q rfl (by decide) (by omega) _ (intsL acc) (r : Int) [.int .u8 (r : Int)] (fun _ => True) (fun _ => False) rfl (by first | (go_simp; done) | (go_simp; rfl)) rfl (fun _ hk => hk.elim) (fun _ _ => trivial) HO5.out HB5.out ?aS ?aL ?_; (case aS => exact HB5.out.size); (case aL => rw [hla.out]; omega); intro v6 w6 ho hb hg6 hat6; rw [HLI.out] at ho; have HO6 := Aside0.mk ho; have HB6 := Aside0.mk hb; clear ho hb hg6 hat6)
                  go_roundw
                  case rel => exact ⟨rest, acc ++ [UInt8.ofNat r], k, rfl, by omega, by omega, by simp; omega, HT3, HO6, HB6⟩
                  case measure => exact HSZ.out
                · have hlo' : ((r : Int) < 128) = False := eq_false (by omega)
                  obtain rfl : mb = false := hsm.resolve_left hlo
                  subst e9
                  go_wp2_with (at_builtin; refine Kd.R_append (Kd.int .u8) (w0 := w) w.heap.size rfl (.tmp 186) (.tmp 189) 94 5 (.int .u8 0) 1 rfl Tryz.underlying94 infoU8q rfl (by decide) (by omega) _ (intsL acc) (r : Int) [.int .u8 (r : Int)] (fun _ => True) (fun _ => False) rfl (by first | (go_simp; done) | (go_simp; rfl)) rfl (fun _ hk => hk.elim) (fun _ _ => trivial) HO5.out HB5.out ?aS ?aL ?_; (case aS => exact HB5.out.size); (case aL => rw [hla.out]; omega); intro v6 w6 ho hb hg6 hat6; rw [HLI.out] at ho; have HO6 := Aside0.mk ho; have HB6 := Aside0.mk hb; clear ho hb hg6 hat6)
                  go_roundw
                  case rel => exact ⟨rest, acc ++ [UInt8.ofNat r], k, rfl, by omega, by omega, by simp; omega, HT3, HO6, HB6⟩
                  case measure => exact HSZ.out
              · rw [if_neg hsm] at HT3
                have hlo' : ((r : Int) < 128) = False := eq_false (by omega)
                obtain rfl : mb = true := by cases mb; exact absurd (Or.inr rfl) hsm; rfl
                subst e9
                have hbc : encs (Value.int .u8) (intsL acc) = Lib.byteCells acc := by unfold encs intsL Lib.byteCells; rw [List.map_map]; rfl
                have hla : Aside0 ((intsL acc).length = acc.length) := ⟨by unfold intsL; rw [List.length_map]⟩
                have hown := Kd.own_of_R HO5.out
                rw [hbc] at hown
                have HOW := Aside0.mk hown
                clear hown
                go_wp2_with fail
                refine (appendRuneQ_calls w.heap.size _ acc (r : Int) (by omega) (by omega) _ (hla.out ▸ HOW.out) (by omega) HB5.out.size).mono ?_
                rintro e w6 ⟨v6, rfl, ho6, hg6⟩
                have HB6 := Aside0.mk (HB5.out.grown hg6 HB5.out.size (fun k hk => (HOW.out.lt k hk).1))
                have HO6 : Aside0 (Kd.R (Kd.int .u8) 5 w6 w.heap.size (fun _ => True) v6 (intsL (acc ++ Lib.encodeRune (r : Int)))) := ⟨Kd.R_of_own (by
                  have hbc2 : encs (Value.int .u8) (intsL (acc ++ Lib.encodeRune (r : Int))) = Lib.byteCells (acc ++ Lib.encodeRune (r : Int)) := by unfold encs intsL Lib.byteCells; rw [List.map_map]; rfl
                  have hla2 : (intsL (acc ++ Lib.encodeRune (r : Int))).length = (acc ++ Lib.encodeRune (r : Int)).length := by unfold intsL; rw [List.length_map]
                  rw [hbc2, hla2]
                  exact ho6) (fun _ _ => trivial)⟩
                clear ho6 hg6
                have henc : (Lib.encodeRune (r : Int)).length ≤ 4 := encR_len _
                go_wp2
                go_roundw
                case rel => exact ⟨rest, acc ++ Lib.encodeRune (r : Int), k, rfl, by omega, by omega, by rw [List.length_append]; omega, HT3, HO6, HB6⟩
                case measure => exact HSZ.out
  | false =>
    go_wp2_with fail
    rw [HC.out]
    refine (strContains_calls C 10 _).mono ?_
    rintro e w3 ⟨rfl, hw13⟩
    obtain rfl : w = w3 := hw13.symm
    rw [H10.out]
    cases r10 with
    | true =>
      have HBL := Aside0.mk (Below.refl w.heap.size w)
      have HU2 : Aside0 (unqL (b.length + 1) b [] = unq1 (34 :: b)) := ⟨by rw [HU.out]; simp⟩
      go_wp2_with (at_make; refine wpList_make_own _ rfl _ _ 94 rfl w.heap.size 5 iU _ 1 Tryz.underlying94 hiU hzU hsU .i64 .i64 _ (3 * (m + 2) / 2) rfl rfl ?aC (by rw [hbU]; omega) (by unfold maxLen; omega) ?aS ?_; (case aC => omega); (case aS => exact HBL.out.size); intro w9 ho9 hg9; have HV9 : Aside0 (Kd.R (Kd.int .u8) 5 w9 w.heap.size (fun _ => True) _ (intsL [])) := ⟨Kd.R_of_own (xs := ([] : List Int)) ho9 (fun _ _ => trivial)⟩; have HB9 := Aside0.mk (HBL.out.grown hg9 HBL.out.size (fun j hj => by cases hj)); clear ho9 hg9)
      try rw [HS1.out]
      clear hs1 hs2 hs3 hs4 hz0 hzc hwm hw2 hm HX HK HJ HI HC e34 HV H10 H92 hz e0 HS1 hbl2
      go_loopw [0, 14] (fun v0 v14 wr => ∃ (l acc : List UInt8) (k : Nat), v0 = .string (mk l) ∧ l.length < k ∧ l.length ≤ b.length ∧ acc.length ≤ 4 * (b.length - l.length) ∧ Aside0 (unqL k l acc = unq1 (34 :: b)) ∧ Aside0 (Kd.R (Kd.int .u8) 5 wr w.heap.size (fun _ => True) v14 (intsL acc)) ∧ Aside0 (Below w.heap.size w wr)) (fun v0 _ _ => strLen v0)
      case atStart => exact ⟨b, [], b.length + 1, rfl, Nat.lt_succ_self _, Nat.le_refl _, by simp, HU2, HV9, HB9⟩
      case round =>
        clear HB9 HV9 HBL HU HU2
        obtain ⟨l, acc, k, rfl, hlk, hlb, hal, HT2, HO, HBR⟩ := hrel
        obtain ⟨k, rfl⟩ : ∃ j, k = j + 1 := ⟨k - 1, by omega⟩
        have hEr := (HBR.out.cell (World.block_lt_of_cell? _ _ hE)).trans hE
        cases l with
        | nil =>
          have HN : Aside0 (unq1 (34 :: b) = none) := ⟨by rw [← HT2.out]; rfl⟩
          have hz : (mk []).size = 0 := rfl
          generalize mk [] = sl at *
          go_wp2
          go_region
          all_goals
            go_wp2
            exact bodyPost_ret (v := .tuple #[.string ⟨#[]⟩, .string s, .iface et ep]) (by simp [results, Tryz.results155, go_sem]) rfl (by rw [HN.out]; exact ⟨_, _, _, rfl, by repeat (first | exact HBR.out | apply below_drew)⟩)
        | cons c t =>
          have hz : (mk (c :: t)).size = t.length + 1 := by rw [mk_size]; rfl
          have e0 : ∀ h, (mk (c :: t))[0]'h = c := fun _ => rfl
          by_cases h34 : c = 34
          · subst h34
            have HY : Aside0 (unq1 (34 :: b) = some (acc, t)) := ⟨by rw [← HT2.out]; rfl⟩
            have HS9 : Aside0 ((mk (34 :: t)).extract 1 (t.length + 1) = mk t) := ⟨mk_drop _ _ _ (by simp)⟩
            obtain ⟨A9, c9, e9⟩ := Kd.R_slice HO.out
            subst e9
            have hcs := own_string (P := Tryz.prog) (src := 94) (dst := 9) (xs := intsL acc) Tryz.underlying94 Tryz.underlying5 Tryz.underlying9 (Kd.own_of_R HO.out)
            have HST : Aside0 (strOfNums (intsL acc) = mk acc) := ⟨ints_strL acc⟩
            generalize mk (34 :: t) = sl at *
            clear HO
            go_wp2
            exact bodyPost_ret (v := .tuple #[.string (strOfNums (intsL acc)), .string (sl.extract 1 (t.length + 1)), .nilIface]) (by simp [results, Tryz.results155, go_sem]) rfl (by rw [HY.out, HS9.out, HST.out]; exact ⟨rfl, HBR.out⟩)
          · have n34 : ((c.toNat : Int) != 34) = true := bne_iff_ne.2 (u8ne (k := 34) (by omega) h34)
            have HQ := Aside0.mk (unquoteChar_calls c t h34 (by simp at hlb; omega) wr ⟨HT.out.1.below HBR.out, HT.out.2.below HBR.out⟩ ⟨et, ep, hEr⟩)
            have HL : Aside0 (unqL (k + 1) (c :: t) acc = match uqC (c :: t) with
              | none => none
              | some (r, mb, rest) => if c = 10 then none else unqL k rest (acc ++ if r < 128 ∨ mb = false then [UInt8.ofNat r] else Lib.encodeRune (r : Int))) := ⟨by
              rw [unqL, if_neg (by simp), if_neg (by simp; exact h34)]
              cases uqC (c :: t) with
              | none => rfl
              | some q => simp⟩
            have HLS : Aside0 (∀ r mb rest, uqC (c :: t) = some (r, mb, rest) → rest.length < (c :: t).length ∧ r ≤ 2147483647 ∧ (mb = false → r < 256)) := ⟨fun r mb rest h => uqC_less h⟩
            have hlc : (c :: t).length = t.length + 1 := rfl
            rw [hlc] at hlk hlb hal
            cases hq : uqC (c :: t) with
            | none =>
              have HN : Aside0 (unq1 (34 :: b) = none) := ⟨by rw [← HT2.out, HL.out, hq]⟩
              rw [hq] at HQ
              generalize mk (c :: t) = sl at *
              go_wp2_with fail
              refine HQ.out.mono ?_
              rintro e w5 ⟨i5, b5, x5, t5, p5, rfl, hb5⟩
              have HB5 := Aside0.mk (HBR.out.trans (hb5.mono HBR.out.size))
              have hE5 := (hb5.cell (World.block_lt_of_cell? _ _ hEr)).trans hEr
              clear hb5 HQ
              by_cases h10 : c = 10
              · have n10 : ((c.toNat : Int) == 10) = true := by rw [h10]; rfl
                go_wp2
                go_region
                all_goals
                  go_wp2
                  exact bodyPost_ret (v := .tuple #[.string ⟨#[]⟩, .string s, .iface et ep]) (by simp [results, Tryz.results155, go_sem]) rfl (by rw [HN.out]; exact ⟨_, _, _, rfl, by repeat (first | exact HB5.out | apply below_drew)⟩)
              · have n10 : ((c.toNat : Int) == 10) = false := beq_eq_false_iff_ne.2 (u8ne (k := 10) (by omega) h10)
                go_wp2
                go_region
                all_goals
                  go_wp2
                  exact bodyPost_ret (v := .tuple #[.string ⟨#[]⟩, .string s, .iface et ep]) (by simp [results, Tryz.results155, go_sem]) rfl (by rw [HN.out]; exact ⟨_, _, _, rfl, by repeat (first | exact HB5.out | apply below_drew)⟩)
            | some q =>
              obtain ⟨r, mb, rest⟩ := q
              obtain ⟨hrl, hr31, hr8⟩ := HLS.out r mb rest hq
              rw [hlc] at hrl
              have HT3 : Aside0 ((if c = 10 then none else unqL k rest (acc ++ if r < 128 ∨ mb = false then [UInt8.ofNat r] else Lib.encodeRune (r : Int))) = unq1 (34 :: b)) := ⟨by rw [← HT2.out, HL.out, hq]⟩
              rw [hq] at HQ
              clear HL HLS HT2 hq
              have HSZ : Aside0 ((mk rest).size < (mk (c :: t)).size) := ⟨by rw [mk_size, mk_size]; exact hrl⟩
              generalize mk (c :: t) = sl at *
              go_wp2_with fail
              refine HQ.out.mono ?_
              rintro e w5 ⟨rfl, hb5⟩
              have HB5 := Aside0.mk (HBR.out.trans (hb5.mono HBR.out.size))
              have hE5 := (hb5.cell (World.block_lt_of_cell? _ _ hEr)).trans hEr
              have HO5 := Aside0.mk (Kd.R_below HO.out hb5)
              clear hb5 HQ HO
              by_cases h10 : c = 10
              · have n10 : ((c.toNat : Int) == 10) = true := by rw [h10]; rfl
                have HN : Aside0 (unq1 (34 :: b) = none) := ⟨by rw [← HT3.out, if_pos h10]⟩
                go_wp2
                go_region
                all_goals
                  go_wp2
                  exact bodyPost_ret (v := .tuple #[.string ⟨#[]⟩, .string s, .iface et ep]) (by simp [results, Tryz.results155, go_sem]) rfl (by rw [HN.out]; exact ⟨_, _, _, rfl, by repeat (first | exact HB5.out | apply below_drew)⟩)
              · have n10 : ((c.toNat : Int) == 10) = false := beq_eq_false_iff_ne.2 (u8ne (k := 10) (by omega) h10)
                rw [if_neg h10] at HT3
                obtain ⟨A9, c9, e9⟩ := Kd.R_slice HO5.out
                by_cases hsm : r < 128 ∨ mb = false
                · rw [if_pos hsm] at HT3
                  have hr256 : r < 256 := by rcases hsm with h | h; omega; exact hr8 h
                  have HLI : Aside0 (intsL acc ++ [(r : Int)] = intsL (acc ++ [UInt8.ofNat r])) := ⟨by unfold intsL; rw [List.map_append]; simp; omega⟩
                  have hla : Aside0 ((intsL acc).length = acc.length) := ⟨by unfold intsL; rw [List.length_map]⟩
                  have hcv : IntKind.u8.wrap (r : Int) = (r : Int) := by rw [show IntKind.u8.wrap (r : Int) = (r : Int) % 256 from IntKind.wrap_u8 _]; omega
                  have h128 : ((r : Int) < 128 ∨ mb = false) := by rcases hsm with h | h; exact .inl (by omega); exact .inr h
                  by_cases hlo : r < 128
                  · have hlo' : ((r : Int) < 128) = True := eq_true (by omega)
                    subst e9
                    go_wp2_with (at_builtin; refine Kd.R_append (Kd.int .u8) (w0 := w) w.heap.size rfl (.tmp 186) (.tmp 189) 94 5 (.int .u8 0) 1 rfl Tryz.underlying94 infoU8q rfl (by decide) (by omega) _ (intsL acc) (r : Int) [.int .u8 (r : Int)] (fun _ => True) (fun _ => False) rfl (by first | (go_simp; done) | (go_simp; rfl)) rfl (fun _ hk => hk.elim) (fun _ _ => trivial) HO5.out HB5.out ?aS ?aL ?_; (case aS => exact HB5.out.size); (case aL => rw [hla.out]; omega); intro v6 w6 ho hb hg6 hat6; rw [HLI.out] at ho; have HO6 := Aside0.mk ho; have HB6 := Aside0.mk hb; clear ho hb hg6 hat6)
                    go_roundw
                    case rel => exact ⟨rest, acc ++ [UInt8.ofNat r], k, rfl, by omega, by omega, by simp; omega, HT3, HO6, HB6⟩
                    case measure => exact HSZ.out
                  · have hlo' : ((r : Int) < 128) = False := eq_false (by omega)
                    obtain rfl : mb = false := hsm.resolve_left hlo
                    subst e9
                    go_wp2_with (at_builtin; refine Kd.R_append (Kd.int .u8) (w0 := w) w.heap.size rfl (.tmp 186) (.tmp 189) 94 5 (.int .u8 0) 1 rfl Tryz.underlying94 infoU8q rfl (by decide) (by omega) _ (intsL acc) (r : Int) [.int .u8 (r : Int)] (fun _ => True) (fun _ => False) rfl (by first | (go_simp; done) | (go_simp; rfl)) rfl (fun _ hk => hk.elim) (fun _ _ => trivial) HO5.out HB5.out ?aS ?aL ?_; (case aS => exact HB5.out.size); (case aL => rw [hla.out]; omega); intro v6 w6 ho hb hg6 hat6; rw [HLI.out] at ho; have HO6 := Aside0.mk ho; have HB6 := Aside0.mk hb; clear ho hb hg6 hat6)
                    go_roundw
                    case rel => exact ⟨rest, acc ++ [UInt8.ofNat r], k, rfl, by omega, by omega, by simp; omega, HT3, HO6, HB6⟩
                    case measure => exact HSZ.out
                · rw [if_neg hsm] at HT3
                  have hlo' : ((r : Int) < 128) = False := eq_false (by omega)
                  obtain rfl : mb = true := by cases mb; exact absurd (Or.inr rfl) hsm; rfl
                  subst e9
                  have hbc : encs (Value.int .u8) (intsL acc) = Lib.byteCells acc := by unfold encs intsL Lib.byteCells; rw [List.map_map]; rfl
                  have hla : Aside0 ((intsL acc).length = acc.length) := ⟨by unfold intsL; rw [List.length_map]⟩
                  have hown := Kd.own_of_R HO5.out
                  rw [hbc] at hown
                  have HOW := Aside0.mk hown
                  clear hown
                  go_wp2_with fail
                  refine (appendRuneQ_calls w.heap.size _ acc (r : Int) (by omega) (by omega) _ (hla.out ▸ HOW.out) (by omega) HB5.out.size).mono ?_
                  rintro e w6 ⟨v6, rfl, ho6, hg6⟩
                  have HB6 := Aside0.mk (HB5.out.grown hg6 HB5.out.size (fun k hk => (HOW.out.lt k hk).1))
                  have HO6 : Aside0 (Kd.R (Kd.int .u8) 5 w6 w.heap.size (fun _ => True) v6 (intsL (acc ++ Lib.encodeRune (r : Int)))) := ⟨Kd.R_of_own (by
                    have hbc2 : encs (Value.int .u8) (intsL (acc ++ Lib.encodeRune (r : Int))) = Lib.byteCells (acc ++ Lib.encodeRune (r : Int)) := by unfold encs intsL Lib.byteCells; rw [List.map_map]; rfl
                    have hla2 : (intsL (acc ++ Lib.encodeRune (r : Int))).length = (acc ++ Lib.encodeRune (r : Int)).length := by unfold intsL; rw [List.length_map]
                    rw [hbc2, hla2]
                    exact ho6) (fun _ _ => trivial)⟩
                  clear ho6 hg6
                  have henc : (Lib.encodeRune (r : Int)).length ≤ 4 := encR_len _
                  go_wp2
                  go_roundw
                  case rel => exact ⟨rest, acc ++ Lib.encodeRune (r : Int), k, rfl, by omega, by omega, by rw [List.length_append]; omega, HT3, HO6, HB6⟩
                  case measure => exact HSZ.out
    | false =>
      go_wp2_with fail
      rw [HI.out]
      refine (utf8_ValidString.calls (mk (b.take m)) rv _ HT.out.1 (by unfold utf8_ValidString.f; rw [mk_data, HV.out, if_pos (by rw [mk_size, List.length_take]; omega)])).mono ?_
      rintro e w4 ⟨rfl, hb4⟩
      have HB4 := Aside0.mk hb4
      clear hb4
      cases rv with
      | true =>
        go_wp2
        go_region
        all_goals
          go_wp2
          exact bodyPost_ret (v := .tuple #[.string ((s.extract 0 (m + 2)).extract 1 (m + 1)), .string (s.extract (m + 2) (b.length + 1)), .nilIface]) (by simp [results, Tryz.results155, go_sem]) rfl (by rw [HU.out, HC.out, HK.out, HJ.out]; exact ⟨rfl, below_drew HB4.out⟩)
      | false =>
        have HBL := HB4
        have HU2 : Aside0 (unqL (b.length + 1) b [] = unq1 (34 :: b)) := ⟨by rw [HU.out]; simp⟩
        go_wp2_with (at_make; refine wpList_make_own _ rfl _ _ 94 rfl w.heap.size 5 iU _ 1 Tryz.underlying94 hiU hzU hsU .i64 .i64 _ (3 * (m + 2) / 2) rfl rfl ?aC (by rw [hbU]; omega) (by unfold maxLen; omega) ?aS ?_; (case aC => omega); (case aS => exact HBL.out.size); intro w9 ho9 hg9; have HV9 : Aside0 (Kd.R (Kd.int .u8) 5 w9 w.heap.size (fun _ => True) _ (intsL [])) := ⟨Kd.R_of_own (xs := ([] : List Int)) ho9 (fun _ _ => trivial)⟩; have HB9 := Aside0.mk (HBL.out.grown hg9 HBL.out.size (fun j hj => by cases hj)); clear ho9 hg9)
        try rw [HS1.out]
        clear hs1 hs2 hs3 hs4 hz0 hzc hwm hw2 hm HX HK HJ HI HC e34 HV H10 H92 hz e0 HS1 hbl2
        go_loopw [0, 14] (fun v0 v14 wr => ∃ (l acc : List UInt8) (k : Nat), v0 = .string (mk l) ∧ l.length < k ∧ l.length ≤ b.length ∧ acc.length ≤ 4 * (b.length - l.length) ∧ Aside0 (unqL k l acc = unq1 (34 :: b)) ∧ Aside0 (Kd.R (Kd.int .u8) 5 wr w.heap.size (fun _ => True) v14 (intsL acc)) ∧ Aside0 (Below w.heap.size w wr)) (fun v0 _ _ => strLen v0)
        case atStart => exact ⟨b, [], b.length + 1, rfl, Nat.lt_succ_self _, Nat.le_refl _, by simp, HU2, HV9, HB9⟩
        case round =>
          clear HB9 HV9 HBL HU HU2
          obtain ⟨l, acc, k, rfl, hlk, hlb, hal, HT2, HO, HBR⟩ := hrel
          obtain ⟨k, rfl⟩ : ∃ j, k = j + 1 := ⟨k - 1, by omega⟩
          have hEr := (HBR.out.cell (World.block_lt_of_cell? _ _ hE)).trans hE
          cases l with
          | nil =>
            have HN : Aside0 (unq1 (34 :: b) = none) := ⟨by rw [← HT2.out]; rfl⟩
            have hz : (mk []).size = 0 := rfl
            generalize mk [] = sl at *
            go_wp2
            go_region
            all_goals
              go_wp2
              exact bodyPost_ret (v := .tuple #[.string ⟨#[]⟩, .string s, .iface et ep]) (by simp [results, Tryz.results155, go_sem]) rfl (by rw [HN.out]; exact ⟨_, _, _, rfl, by repeat (first | exact HBR.out | apply below_drew)⟩)
          | cons c t =>
            have hz : (mk (c :: t)).size = t.length + 1 := by rw [mk_size]; rfl
            have e0 : ∀ h, (mk (c :: t))[0]'h = c := fun _ => rfl
            by_cases h34 : c = 34
            · subst h34
              have HY : Aside0 (unq1 (34 :: b) = some (acc, t)) := ⟨by rw [← HT2.out]; rfl⟩
              have HS9 : Aside0 ((mk (34 :: t)).extract 1 (t.length + 1) = mk t) := ⟨mk_drop _ _ _ (by simp)⟩
              obtain ⟨A9, c9, e9⟩ := Kd.R_slice HO.out
              subst e9
              have hcs := own_string (P := Tryz.prog) (src := 94) (dst := 9) (xs := intsL acc) Tryz.underlying94 Tryz.underlying5 Tryz.underlying9 (Kd.own_of_R HO.out)
              have HST : Aside0 (strOfNums (intsL acc) = mk acc) := ⟨ints_strL acc⟩
              generalize mk (34 :: t) = sl at *
              clear HO
              go_wp2
              exact bodyPost_ret (v := .tuple #[.string (strOfNums (intsL acc)), .string (sl.extract 1 (t.length + 1)), .nilIface]) (by simp [results, Tryz.results155, go_sem]) rfl (by rw [HY.out, HS9.out, HST.out]; exact ⟨rfl, HBR.out⟩)
            · have n34 : ((c.toNat : Int) != 34) = true := bne_iff_ne.2 (u8ne (k := 34) (by omega) h34)
              have HQ := Aside0.mk (unquoteChar_calls c t h34 (by simp at hlb; omega) wr ⟨HT.out.1.below HBR.out, HT.out.2.below HBR.out⟩ ⟨et, ep, hEr⟩)
              have HL : Aside0 (unqL (k + 1) (c :: t) acc = match uqC (c :: t) with
                | none => none
                | some (r, mb, rest) => if c = 10 then none else unqL k rest (acc ++ if r < 128 ∨ mb = false then [UInt8.ofNat r] else Lib.encodeRune (r : Int))) := ⟨by
                rw [unqL, if_neg (by simp), if_neg (by simp; exact h34)]
                cases uqC (c :: t) with
                | none => rfl
                | some q => simp⟩
              have HLS : Aside0 (∀ r mb rest, uqC (c :: t) = some (r, mb, rest) → rest.length < (c :: t).length ∧ r ≤ 2147483647 ∧ (mb = false → r < 256)) := ⟨fun r mb rest h => uqC_less h⟩
              have hlc : (c :: t).length = t.length + 1 := rfl
              rw [hlc] at hlk hlb hal
              cases hq : uqC (c :: t) with
              | none =>
                have HN : Aside0 (unq1 (34 :: b) = none) := ⟨by rw [← HT2.out, HL.out, hq]⟩
                rw [hq] at HQ
                generalize mk (c :: t) = sl at *
                go_wp2_with fail
                refine HQ.out.mono ?_
                rintro e w5 ⟨i5, b5, x5, t5, p5, rfl, hb5⟩
                have HB5 := Aside0.mk (HBR.out.trans (hb5.mono HBR.out.size))
                have hE5 := (hb5.cell (World.block_lt_of_cell? _ _ hEr)).trans hEr
                clear hb5 HQ
                by_cases h10 : c = 10
                · have n10 : ((c.toNat : Int) == 10) = true := by rw [h10]; rfl
                  go_wp2
                  go_region
                  all_goals
                    go_wp2
                    exact bodyPost_ret (v := .tuple #[.string ⟨#[]⟩, .string s, .iface et ep]) (by simp [results, Tryz.results155, go_sem]) rfl (by rw [HN.out]; exact ⟨_, _, _, rfl, by repeat (first | exact HB5.out | apply below_drew)⟩)
                · have n10 : ((c.toNat : Int) == 10) = false := beq_eq_false_iff_ne.2 (u8ne (k := 10) (by omega) h10)
                  go_wp2
                  go_region
                  all_goals
                    go_wp2
                    exact bodyPost_ret (v := .tuple #[.string ⟨#[]⟩, .string s, .iface et ep]) (by simp [results, Tryz.results155, go_sem]) rfl (by rw [HN.out]; exact ⟨_, _, _, rfl, by repeat (first | exact HB5.out | apply below_drew)⟩)
              | some q =>
                obtain ⟨r, mb, rest⟩ := q
                obtain ⟨hrl, hr31, hr8⟩ := HLS.out r mb rest hq
                rw [hlc] at hrl
                have HT3 : Aside0 ((if c = 10 then none else unqL k rest (acc ++ if r < 128 ∨ mb = false then [UInt8.ofNat r] else Lib.encodeRune (r : Int))) = unq1 (34 :: b)) := ⟨by rw [← HT2.out, HL.out, hq]⟩
                rw [hq] at HQ
                clear HL HLS HT2 hq
                have HSZ : Aside0 ((mk rest).size < (mk (c :: t)).size) := ⟨by rw [mk_size, mk_size]; exact hrl⟩
                generalize mk (c :: t) = sl at *
                go_wp2_with fail
                refine HQ.out.mono ?_
                rintro e w5 ⟨rfl, hb5⟩
                have HB5 := Aside0.mk (HBR.out.trans (hb5.mono HBR.out.size))
                have hE5 := (hb5.cell (World.block_lt_of_cell? _ _ hEr)).trans hEr
                have HO5 := Aside0.mk (Kd.R_below HO.out hb5)
                clear hb5 HQ HO
                by_cases h10 : c = 10
                · have n10 : ((c.toNat : Int) == 10) = true := by rw [h10]; rfl
                  have HN : Aside0 (unq1 (34 :: b) = none) := ⟨by rw [← HT3.out, if_pos h10]⟩
                  go_wp2
                  go_region
                  all_goals
                    go_wp2
                    exact bodyPost_ret (v := .tuple #[.string ⟨#[]⟩, .string s, .iface et ep]) (by simp [results, Tryz.results155, go_sem]) rfl (by rw [HN.out]; exact ⟨_, _, _, rfl, by repeat (first | exact HB5.out | apply below_drew)⟩)
                · have n10 : ((c.toNat : Int) == 10) = false := beq_eq_false_iff_ne.2 (u8ne (k := 10) (by omega) h10)
                  rw [if_neg h10] at HT3
                  obtain ⟨A9, c9, e9⟩ := Kd.R_slice HO5.out
                  by_cases hsm : r < 128 ∨ mb = false
                  · rw [if_pos hsm] at HT3
                    have hr256 : r < 256 := by rcases hsm with h | h; omega; exact hr8 h
                    have HLI : Aside0 (intsL acc ++ [(r : Int)] = intsL (acc ++ [UInt8.ofNat r])) := ⟨by unfold intsL; rw [List.map_append]; simp; omega⟩
                    have hla : Aside0 ((intsL acc).length = acc.length) := ⟨by unfold intsL; rw [List.length_map]⟩
                    have hcv : IntKind.u8.wrap (r : Int) = (r : Int) := by rw [show IntKind.u8.wrap (r : Int) = (r : Int) % 256 from IntKind.wrap_u8 _]; omega
                    have h128 : ((r : Int) < 128 ∨ mb = false) := by rcases hsm with h | h; exact .inl (by omega); exact .inr h
                    by_cases hlo : r < 128
                    · have hlo' : ((r : Int) < 128) = True := eq_true (by omega)
                      subst e9
                      go_wp2_with (at_builtin; refine Kd.R_append (Kd.int .u8) (w0 := w) w.heap.size rfl (.tmp 186) (.tmp 189) 94 5 (.int .u8 0) 1 rfl Tryz.underlying94 infoU8q rfl (by decide) (by omega) _ (intsL acc) (r : Int) [.int .u8 (r : Int)] (fun _ => True) (fun _ => False) rfl (by first | (go_simp; done) | (go_simp; rfl)) rfl (fun _ hk => hk.elim) (fun _ _ => trivial) HO5.out HB5.out ?aS ?aL ?_; (case aS => exact HB5.out.size); (case aL => rw [hla.out]; omega); intro v6 w6 ho hb hg6 hat6; rw [HLI.out] at ho; have HO6 := Aside0.mk ho; have HB6 := Aside0.mk hb; clear ho hb hg6 hat6)
                      go_roundw
                      case rel => exact ⟨rest, acc ++ [UInt8.ofNat r], k, rfl, by omega, by omega, by simp; omega, HT3, HO6, HB6⟩
                      case measure => exact HSZ.out
                    · have hlo' : ((r : Int) < 128) = False := eq_false (by omega)
                      obtain rfl : mb = false := hsm.resolve_left hlo
                      subst e9
                      go_wp2_with (at_builtin; refine Kd.R_append (Kd.int .u8) (w0 := w) w.heap.size rfl (.tmp 186) (.tmp 189) 94 5 (.int .u8 0) 1 rfl Tryz.underlying94 infoU8q rfl (by decide) (by omega) _ (intsL acc) (r : Int) [.int .u8 (r : Int)] (fun _ => True) (fun _ => False) rfl (by first | (go_simp; done) | (go_simp; rfl)) rfl (fun _ hk => hk.elim) (fun _ _ => trivial) HO5.out HB5.out ?aS ?aL ?_; (case aS => exact HB5.out.size); (case aL => rw [hla.out]; omega); intro v6 w6 ho hb hg6 hat6; rw [HLI.out] at ho; have HO6 := Aside0.mk ho; have HB6 := Aside0.mk hb; clear ho hb hg6 hat6)
                      go_roundw
                      case rel => exact ⟨rest, acc ++ [UInt8.ofNat r], k, rfl, by omega, by omega, by simp; omega, HT3, HO6, HB6⟩
                      case measure => exact HSZ.out
                  · rw [if_neg hsm] at HT3
                    have hlo' : ((r : Int) < 128) = False := eq_false (by omega)
                    obtain rfl : mb = true := by cases mb; exact absurd (Or.inr rfl) hsm; rfl
                    subst e9
                    have hbc : encs (Value.int .u8) (intsL acc) = Lib.byteCells acc := by unfold encs intsL Lib.byteCells; rw [List.map_map]; rfl
                    have hla : Aside0 ((intsL acc).length = acc.length) := ⟨by unfold intsL; rw [List.length_map]⟩
                    have hown := Kd.own_of_R HO5.out
                    rw [hbc] at hown
                    have HOW := Aside0.mk hown
                    clear hown
                    go_wp2_with fail
                    refine (appendRuneQ_calls w.heap.size _ acc (r : Int) (by omega) (by omega) _ (hla.out ▸ HOW.out) (by omega) HB5.out.size).mono ?_
                    rintro e w6 ⟨v6, rfl, ho6, hg6⟩
                    have HB6 := Aside0.mk (HB5.out.grown hg6 HB5.out.size (fun k hk => (HOW.out.lt k hk).1))
                    have HO6 : Aside0 (Kd.R (Kd.int .u8) 5 w6 w.heap.size (fun _ => True) v6 (intsL (acc ++ Lib.encodeRune (r : Int)))) := ⟨Kd.R_of_own (by
                      have hbc2 : encs (Value.int .u8) (intsL (acc ++ Lib.encodeRune (r : Int))) = Lib.byteCells (acc ++ Lib.encodeRune (r : Int)) := by unfold encs intsL Lib.byteCells; rw [List.map_map]; rfl
                      have hla2 : (intsL (acc ++ Lib.encodeRune (r : Int))).length = (acc ++ Lib.encodeRune (r : Int)).length := by unfold intsL; rw [List.length_map]
                      rw [hbc2, hla2]
                      exact ho6) (fun _ _ => trivial)⟩
                    clear ho6 hg6
                    have henc : (Lib.encodeRune (r : Int)).length ≤ 4 := encR_len _
                    go_wp2
                    go_roundw
                    case rel => exact ⟨rest, acc ++ Lib.encodeRune (r : Int), k, rfl, by omega, by omega, by rw [List.length_append]; omega, HT3, HO6, HB6⟩
                    case measure => exact HSZ.out
end Go.Proofs.YtnnhehlieakedaaGreatDoor.Q
namespace Go.Proofs.YtnnhehlieakedaaGreatDoor.Q
open Go.RowKit Go.Lib Go.Proofs.YtnnhehlieakedaaGreatDoorW.PrintWords Go.Proofs.YtnnhehlieakedaaGreatDoorW.PrintLast Go.Proofs.YtnnhehlieakedaaGreatDoorW.PrintMore
attribute [local go_sem] max2_int min2_int max_two min_two max_three min_three max_four min_four
/-- What Unquote hands back. -/
def UxP (w w' : World) (o : Option ByteArray) (e : Ending) : Prop := match o with
  | none => ∃ x t p, e = .returned (.tuple #[.string x, .iface t p]) ∧ Below w.heap.size w w'
  | some out => e = .returned (.tuple #[.string out, .nilIface]) ∧ Below w.heap.size w w'
set_option maxRecDepth 100000 in
set_option maxHeartbeats 1000000 in
theorem strUnquote_calls (b : List UInt8) (hl : b.length ≤ 1000000000) (w : World) (tb : TBl w) (he : IsE w 17) :
    Calls Tryz.prog 144 #[.string (mk (34 :: b))] w fun e w' => UxP w w' (unqF (mk (34 :: b))) e := by
  obtain ⟨et, ep, hE⟩ := he
  have HQ := Aside0.mk (unquote_calls0 b hl w tb ⟨et, ep, hE⟩)
  have HF : Aside0 (unqF (mk (34 :: b)) = match unq1 (34 :: b) with
    | none => none
    | some (out, rem) => if rem = [] then some (mk out) else none) := ⟨rfl⟩
  obtain ⟨o, ho⟩ : ∃ o, unq1 (34 :: b) = o := ⟨_, rfl⟩
  rw [ho] at HQ HF
  clear ho tb
  generalize unqF (mk (34 :: b)) = F at *
  generalize mk (34 :: b) = s at *
  cases o with
  | none =>
    go_enter Tryz.func144, Tryz.ntmps144
    go_wp2_with fail
    refine HQ.out.mono ?_
    rintro e w1 ⟨x, t, p, rfl, hb⟩
    have HB := Aside0.mk hb
    have hE1 := (hb.cell (World.block_lt_of_cell? _ _ hE)).trans hE
    clear hb
    by_cases hx : 0 < x.size
    · have hx' : ((0 : Int) < (x.size : Int)) = True := eq_true (by omega)
      go_wp2
      go_region
      all_goals
        go_wp2
        go_ret2
        rw [HF.out]
        exact ⟨⟨#[]⟩, et, ep, rfl, below_drew HB.out⟩
    · have hx' : ((0 : Int) < (x.size : Int)) = False := eq_false (by omega)
      go_wp2
      go_ret2
      rw [HF.out]
      exact ⟨_, _, _, rfl, HB.out⟩
  | some q =>
    obtain ⟨out, rem⟩ := q
    have HQ' : Aside0 (Calls Tryz.prog 155 #[.string s, .bool true] w fun e w' => e = .returned (.tuple #[.string (mk out), .string (mk rem), .nilIface]) ∧ Below w.heap.size w w') := HQ
    have hzr : Aside0 ((mk rem).size = rem.length) := ⟨mk_size rem⟩
    generalize mk rem = rs at *
    clear HQ
    go_enter Tryz.func144, Tryz.ntmps144
    go_wp2_with fail
    refine HQ'.out.mono ?_
    rintro e w1 ⟨rfl, hb⟩
    have HB := Aside0.mk hb
    have hE1 := (hb.cell (World.block_lt_of_cell? _ _ hE)).trans hE
    clear hb
    by_cases hr : rem = []
    · have hx' : ((0 : Int) < (rs.size : Int)) = False := eq_false (by rw [hzr.out, hr]; decide)
      rw [if_pos hr] at HF
      have hx2 : ¬ 0 < rs.size := by have h9 := hzr.out; rw [hr, List.length_nil] at h9; omega
      go_wp2
      go_ret2
      rw [HF.out]
      exact ⟨rfl, HB.out⟩
    · have hx' : ((0 : Int) < (rs.size : Int)) = True := eq_true (by have := List.length_pos_iff.2 hr; have := hzr.out; omega)
      have HF2 : Aside0 (F = none) := ⟨by rw [HF.out, if_neg hr]⟩
      have hx2 : 0 < rs.size := by have := List.length_pos_iff.2 hr; have := hzr.out; omega
      clear HF hr
      go_wp2
      go_region
      all_goals
        go_wp2
        exact bodyPost_ret (v := .tuple #[.string ⟨#[]⟩, .iface et ep]) (by simp [results, Tryz.results144, go_sem]) rfl (by rw [HF2.out]; exact ⟨⟨#[]⟩, et, ep, rfl, below_drew HB.out⟩)
theorem unqL_len : ∀ (k : Nat) (l acc out rem : List UInt8), unqL k l acc = some (out, rem) → out.length ≤ acc.length + 4 * l.length
  | 0, _, _, _, _, h => by cases h
  | k + 1, [], acc, out, rem, h => by rw [unqL, if_pos rfl] at h; cases h
  | k + 1, c :: t, acc, out, rem, h => by
    rw [unqL, if_neg (by simp)] at h
    by_cases h34 : (c :: t).head? = some 34
    · rw [if_pos h34] at h
      obtain ⟨rfl, _⟩ := Prod.mk.inj (Option.some.inj h)
      omega
    · rw [if_neg h34] at h
      cases hq : uqC (c :: t) with
      | none => rw [hq] at h; cases h
      | some q =>
        obtain ⟨r, mb, rest⟩ := q
        rw [hq] at h
        simp only at h
        have hl := (uqC_less hq).1
        by_cases h10 : (c :: t).head? = some 10
        · rw [if_pos h10] at h; cases h
        · rw [if_neg h10] at h
          have := unqL_len k rest _ out rem h
          have h4 : (if r < 128 ∨ mb = false then [UInt8.ofNat r] else Lib.encodeRune (r : Int)).length ≤ 4 := by
            split
            · simp
            · exact encR_len _
          rw [List.length_append] at this
          omega
theorem unqF_size (b : List UInt8) (x : ByteArray) (hl : b.length ≤ 1000000000) (h : unqF (mk (34 :: b)) = some x) : x.size ≤ 9000000000 := by
  have h1 : (match unq1 (34 :: b) with
    | none => none
    | some (out, rem) => if rem = [] then some (mk out) else none) = some x := h
  cases hq : unq1 (34 :: b) with
  | none => rw [hq] at h1; cases h1
  | some q =>
    obtain ⟨out, rem⟩ := q
    rw [hq] at h1
    simp only at h1
    by_cases hr : rem = []
    · rw [if_pos hr] at h1
      obtain rfl := Option.some.inj h1
      rw [mk_size]
      unfold unq1 at hq
      rw [List.drop_one, List.tail_cons] at hq
      split at hq
      · simp only at hq
        split at hq
        · obtain ⟨rfl, _⟩ := Prod.mk.inj (Option.some.inj hq)
          rw [List.length_take]
          omega
        · have := unqL_len _ _ _ _ _ hq
          simp at this
          omega
      · cases hq
    · rw [if_neg hr] at h1; cases h1
set_option maxRecDepth 100000 in
set_option maxHeartbeats 1000000 in
theorem tokUnquote_calls (k : Int) (v : ByteArray) (p0 p1 p2 p3 : Value) (hk : k = 8 → ∃ b, v = mk (34 :: b)) (hl : v.size ≤ 1000000000) (w : World) (tb : TBl w) (he : IsE w 17) :
    Calls Tryz.prog 116 #[.agg #[.int .i64 k, .string v, p0, p1, p2, p3]] w fun e w' => UxP w w' (unqT k v) e := by
  have hu := Tryz.underlying169
  have HT := Aside0.mk tb
  have HE := Aside0.mk he
  by_cases h8 : k = 8
  · obtain ⟨b, rfl⟩ := hk h8
    subst h8
    have hbl : b.length ≤ 1000000000 := by rw [mk_size] at hl; simp at hl; omega
    have tbA : TBl (w.alloc (.cells #[.int .i64 8, .string (mk (34 :: b)), p0, p1, p2, p3] 169)) := ⟨tb.1.below (below_alloc (Below.refl _ _) _), tb.2.below (below_alloc (Below.refl _ _) _)⟩
    have HQ := Aside0.mk (strUnquote_calls b hbl (w.alloc (.cells #[.int .i64 8, .string (mk (34 :: b)), p0, p1, p2, p3] 169)) tbA (he.below (below_alloc (Below.refl _ _) _)))
    have HTA := Aside0.mk tbA
    have HF : Aside0 (unqT 8 (mk (34 :: b)) = match unqF (mk (34 :: b)) with
      | none => none
      | some o => if Lib.validD o.data.toList = true then some o else none) := ⟨rfl⟩
    obtain ⟨o, ho⟩ : ∃ o, unqF (mk (34 :: b)) = o := ⟨_, rfl⟩
    have HSZ : Aside0 (∀ x, o = some x → x.size ≤ 9000000000) := ⟨fun x hx => by rw [← ho] at hx; exact unqF_size b x hbl hx⟩
    rw [ho] at HQ HF
    clear ho tb he tbA hk
    generalize unqT 8 (mk (34 :: b)) = F at *
    generalize mk (34 :: b) = s at *
    cases o with
    | none =>
      go_enter Tryz.func116, Tryz.ntmps116
      go_wp2_with fail
      refine HQ.out.mono ?_
      rintro e w1 ⟨x, t, p, rfl, hb⟩
      have HB := Aside0.mk (below_step (below_alloc (Below.refl _ _) _) hb)
      clear hb
      go_wp2
      go_ret2
      rw [HF.out]
      exact ⟨_, _, _, rfl, HB.out⟩
    | some x =>
      have hxs := HSZ.out x rfl
      go_enter Tryz.func116, Tryz.ntmps116
      go_wp2_with fail
      refine HQ.out.mono ?_
      rintro e w1 ⟨rfl, hb⟩
      have HB := Aside0.mk (below_step (below_alloc (Below.refl _ _) _) hb)
      have HT1 := Aside0.mk (TBu.below HTA.out.1 hb)
      clear hb
      obtain ⟨rv, hv⟩ : ∃ r, Lib.validD x.data.toList = r := ⟨_, rfl⟩
      have HV := Aside0.mk hv
      rw [hv] at HF
      clear hv
      go_wp2_with fail
      refine (utf8_ValidString.calls x rv _ HT1.out (by unfold utf8_ValidString.f; rw [HV.out, if_pos (by omega)])).mono ?_
      rintro e w2 ⟨rfl, hb⟩
      have HB2 := Aside0.mk (below_step HB.out hb)
      clear hb
      cases rv with
      | true =>
        go_wp2
        go_ret2
        rw [HF.out]
        exact ⟨rfl, HB2.out⟩
      | false =>
        go_wp2_with fail
        refine (errNew_calls _ _).mono ?_
        rintro e w3 ⟨g, rfl, hb⟩
        have HB3 := Aside0.mk (below_step HB2.out hb)
        clear hb
        go_wp2
        go_ret2
        rw [HF.out]
        exact ⟨_, _, _, rfl, HB3.out⟩
  · have hF : unqT k v = some v := by unfold unqT; rw [if_neg h8]
    rw [hF]
    have hk8 : (k == 8) = false := beq_eq_false_iff_ne.2 h8
    clear hF tb he
    go_enter Tryz.func116, Tryz.ntmps116
    go_wp2
    go_ret2
    exact ⟨rfl, below_alloc (Below.refl _ _) _⟩
end Go.Proofs.YtnnhehlieakedaaGreatDoor.Q
