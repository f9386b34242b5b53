/- Characters and texts in plain Lean: a text that is made of characters has those characters. No condition. -/
import Derived.Test.YtkbaihcamimnjaaDoorUUtf
import Derived.Test.YtkbaihcamimnjaaDoorHTrunc
import Derived.Test.YtkbaihcamimnjaaDoorQspecRunes
import Derived.Lib.ValidU
set_option linter.unusedVariables false
set_option linter.unusedSimpArgs false
namespace Go.Proofs.YtkbaihcamimnjaaDoor.Q
open Go.RowKit Go.Proofs.YtkbaihcamimnjaaDoorW.PrintWords Go.Proofs.YtkbaihcamimnjaaDoorW.PrintLast Go.Proofs.YtkbaihcamimnjaaDoorW.PrintMore
theorem ext_extR (s : ByteArray) (i n : Nat) (h : i + n ≤ s.size) : (s.extract i s.size).extract n (s.extract i s.size).size = s.extract (i + n) s.size := by
  have hz : (s.extract i s.size).size = s.size - i := by rw [ByteArray.size_extract]; omega
  rw [hz]
  apply ByteArray.ext_getElem
  · simp only [ByteArray.size_extract]; omega
  · intro j h1 h2
    simp only [ByteArray.getElem_extract, Nat.add_assoc]
theorem ext_allR (s : ByteArray) : s.extract 0 s.size = s := by
  apply ByteArray.ext_getElem
  · rw [ByteArray.size_extract]; omega
  · intro j h1 h2
    simp only [ByteArray.getElem_extract, Nat.zero_add]
theorem waddR (a b : Nat) (h : a + b < 9223372036854775808) : wrap64 ((a : Int) + (b : Int)) = ((a + b : Nat) : Int) := by unfold wrap64; omega
theorem by1_list (s : ByteArray) (i : Nat) : by1 s i = (s.data.toList.getD i 0).toNat := by
  obtain ⟨⟨l⟩⟩ := s
  unfold by1 ByteArray.get!
  simp [List.getD_eq_getElem?_getD]
  rfl
theorem by1_right (a b : ByteArray) (j : Nat) : by1 (a ++ b) (a.size + j) = by1 b j := by
  rw [by1_list, by1_list]
  have e : (a ++ b).data.toList = a.data.toList ++ b.data.toList := by simp
  have hs : a.size = a.data.toList.length := Array.length_toList.symm
  rw [e, List.getD_eq_getElem?_getD, List.getD_eq_getElem?_getD, List.getElem?_append_right (by omega), hs, Nat.add_sub_cancel_left]
theorem by1_left (a b : ByteArray) (j : Nat) (h : j < a.size) : by1 (a ++ b) j = by1 a j := by
  rw [by1_list, by1_list]
  have e : (a ++ b).data.toList = a.data.toList ++ b.data.toList := by simp
  have hs : a.size = a.data.toList.length := Array.length_toList.symm
  rw [e, List.getD_eq_getElem?_getD, List.getD_eq_getElem?_getD, List.getElem?_append_left (by omega)]
/-- Is a number one of a character. -/
def okC (c : Nat) : Prop := c < 55296 ∨ (57344 ≤ c ∧ c ≤ 1114111)
theorem enc_list (c : Nat) (h : okC c) : Utf8.encode (c : Int) = if c < 128 then ⟨#[UInt8.ofNat c]⟩ else if c < 2048 then ⟨#[UInt8.ofNat (192 + c / 64), UInt8.ofNat (128 + c % 64)]⟩
    else if c < 65536 then ⟨#[UInt8.ofNat (224 + c / 4096), UInt8.ofNat (128 + c / 64 % 64), UInt8.ofNat (128 + c % 64)]⟩ else ⟨#[UInt8.ofNat (240 + c / 262144), UInt8.ofNat (128 + c / 4096 % 64), UInt8.ofNat (128 + c / 64 % 64), UInt8.ofNat (128 + c % 64)]⟩ := by
  have hv : Utf8.valid (c : Int) = true := by
    unfold Utf8.valid
    unfold okC at h
    simp only [Bool.or_eq_true, Bool.and_eq_true, decide_eq_true_eq]
    omega
  unfold Utf8.encode
  dsimp only
  rw [if_pos hv, Int.toNat_natCast]
theorem u8n (x : Nat) (h : x < 256) : (UInt8.ofNat x).toNat = x := by simp; omega
theorem decode_enc (a r : ByteArray) (c : Nat) (h : okC c) : Utf8.decode (a ++ (Utf8.encode (c : Int) ++ r)) a.size = (c, (Utf8.encode (c : Int)).size) := by
  have hs : (a ++ (Utf8.encode (c : Int) ++ r)).size = a.size + ((Utf8.encode (c : Int)).size + r.size) := by rw [ByteArray.size_append, ByteArray.size_append]
  have hpos : 0 < (Utf8.encode (c : Int)).size := by rw [enc_list c h]; repeat' split
                                                     all_goals simp [ByteArray.size]
  rw [decode_is _ _ (by omega)]
  have e0 := by1_right a (Utf8.encode (c : Int) ++ r) 0
  have e1 := by1_right a (Utf8.encode (c : Int) ++ r) 1
  have e2 := by1_right a (Utf8.encode (c : Int) ++ r) 2
  have e3 := by1_right a (Utf8.encode (c : Int) ++ r) 3
  rw [Nat.add_zero] at e0
  have f : ∀ j, j < (Utf8.encode (c : Int)).size → by1 (Utf8.encode (c : Int) ++ r) j = by1 (Utf8.encode (c : Int)) j := fun j hj => by1_left _ _ j hj
  have hn : (a ++ (Utf8.encode (c : Int) ++ r)).size - a.size = (Utf8.encode (c : Int)).size + r.size := by omega
  rw [hn, e0, e1, e2, e3]
  clear e0 e1 e2 e3 hn hs
  generalize hE : Utf8.encode (c : Int) = E at *
  have hL := (hE.symm.trans (enc_list c h))
  clear hE
  unfold okC at h
  by_cases h1 : c < 128
  · rw [if_pos h1] at hL
    have hz : E.size = 1 := by rw [hL]; rfl
    have b0 : by1 E 0 = c := by rw [hL, by1_list]; exact u8n c (by omega)
    rw [f 0 (by omega), b0, dW_not2 (by omega) (by omega) (by omega), hz]
    unfold dE
    rw [dW_not2 (by omega) (by omega) (by omega), if_neg (by omega), if_neg (by omega), if_neg (by omega), if_neg (by omega), if_pos h1]
  rw [if_neg h1] at hL
  by_cases h2 : c < 2048
  · rw [if_pos h2] at hL
    have hz : E.size = 2 := by rw [hL]; rfl
    have b0 : by1 E 0 = 192 + c / 64 := by rw [hL, by1_list]; exact u8n _ (by omega)
    have b1 : by1 E 1 = 128 + c % 64 := by rw [hL, by1_list]; exact u8n _ (by omega)
    have hw : 194 ≤ 192 + c / 64 ∧ 192 + c / 64 ≤ 223 ∧ 2 ≤ E.size + r.size ∧ 128 ≤ 128 + c % 64 ∧ 128 + c % 64 ≤ 191 := by omega
    rw [f 0 (by omega), f 1 (by omega), b0, b1]
    unfold dE
    rw [dW_2 hw, if_neg (by omega), if_pos rfl, hz]
    congr 1
    omega
  rw [if_neg h2] at hL
  by_cases h3 : c < 65536
  · rw [if_pos h3] at hL
    have hz : E.size = 3 := by rw [hL]; rfl
    have b0 : by1 E 0 = 224 + c / 4096 := by rw [hL, by1_list]; exact u8n _ (by omega)
    have b1 : by1 E 1 = 128 + c / 64 % 64 := by rw [hL, by1_list]; exact u8n _ (by omega)
    have b2 : by1 E 2 = 128 + c % 64 := by rw [hL, by1_list]; exact u8n _ (by omega)
    have hw : 224 ≤ 224 + c / 4096 ∧ 224 + c / 4096 ≤ 239 ∧ 3 ≤ E.size + r.size ∧ (224 + c / 4096 = 224 → 160 ≤ 128 + c / 64 % 64) ∧ (224 + c / 4096 = 237 → 128 + c / 64 % 64 ≤ 159) ∧ 128 ≤ 128 + c / 64 % 64 ∧ 128 + c / 64 % 64 ≤ 191 ∧ 128 ≤ 128 + c % 64 ∧ 128 + c % 64 ≤ 191 := by
      refine ⟨by omega, by omega, by omega, by omega, by omega, by omega, by omega, by omega, by omega⟩
    rw [f 0 (by omega), f 1 (by omega), f 2 (by omega), b0, b1, b2]
    unfold dE
    rw [dW_3 hw, if_neg (by omega), if_neg (by omega), if_pos rfl, hz]
    congr 1
    omega
  rw [if_neg h3] at hL
  have hz : E.size = 4 := by rw [hL]; rfl
  have b0 : by1 E 0 = 240 + c / 262144 := by rw [hL, by1_list]; exact u8n _ (by omega)
  have b1 : by1 E 1 = 128 + c / 4096 % 64 := by rw [hL, by1_list]; exact u8n _ (by omega)
  have b2 : by1 E 2 = 128 + c / 64 % 64 := by rw [hL, by1_list]; exact u8n _ (by omega)
  have b3 : by1 E 3 = 128 + c % 64 := by rw [hL, by1_list]; exact u8n _ (by omega)
  have hw : 240 ≤ 240 + c / 262144 ∧ 240 + c / 262144 ≤ 244 ∧ 4 ≤ E.size + r.size ∧ (240 + c / 262144 = 240 → 144 ≤ 128 + c / 4096 % 64) ∧ (240 + c / 262144 = 244 → 128 + c / 4096 % 64 ≤ 143) ∧ 128 ≤ 128 + c / 4096 % 64 ∧ 128 + c / 4096 % 64 ≤ 191 ∧ 128 ≤ 128 + c / 64 % 64 ∧ 128 + c / 64 % 64 ≤ 191 ∧ 128 ≤ 128 + c % 64 ∧ 128 + c % 64 ≤ 191 := by
    refine ⟨by omega, by omega, by omega, by omega, by omega, by omega, by omega, by omega, by omega, by omega, by omega⟩
  rw [f 0 (by omega), f 1 (by omega), f 2 (by omega), f 3 (by omega), b0, b1, b2, b3]
  unfold dE
  rw [dW_4 hw, if_neg (by omega), if_neg (by omega), if_neg (by omega), if_pos rfl, hz]
  congr 1
  omega
theorem emp_app (a : ByteArray) : ByteArray.empty ++ a = a := by apply ByteArray.ext; simp
theorem emp_size : ByteArray.empty.size = 0 := rfl
theorem ba_eta (x : ByteArray) : (⟨x.data.toList.toArray⟩ : ByteArray) = x := by cases x; simp
theorem lsz (x : ByteArray) : x.data.toList.length = x.size := Array.length_toList
theorem runesBytes_acc (l : List Int) : ∀ (acc : ByteArray), l.foldl (fun r n => r ++ Utf8.encode n) acc = acc ++ runesBytes l := by
  unfold runesBytes
  induction l with
  | nil => intro acc; apply ByteArray.ext; simp
  | cons a l ih =>
    intro acc
    simp only [List.foldl_cons]
    rw [ih (acc ++ Utf8.encode a), ih (ByteArray.empty ++ Utf8.encode a), ByteArray.append_assoc]
    rw [emp_app]
theorem encL_cons (c : Nat) (l : List Nat) : encL (c :: l) = Utf8.encode (c : Int) ++ encL l := by
  unfold encL
  rw [List.map_cons]
  generalize List.map (fun c : Nat => (c : Int)) l = m
  generalize (c : Int) = z
  have : runesBytes (z :: m) = (ByteArray.empty ++ Utf8.encode z) ++ runesBytes m := by
    have := runesBytes_acc m (ByteArray.empty ++ Utf8.encode z)
    rw [← this]
    rfl
  rw [this, emp_app]
theorem encL_nil : encL [] = ByteArray.empty := rfl
theorem encL_append (l m : List Nat) : encL (l ++ m) = encL l ++ encL m := by
  induction l with
  | nil => rw [List.nil_append, encL_nil, emp_app]
  | cons c l ih => rw [List.cons_append, encL_cons, encL_cons, ih, ByteArray.append_assoc]
def okL (l : List Nat) : Prop := ∀ c ∈ l, okC c
theorem enc_pos (c : Nat) (h : okC c) : 0 < (Utf8.encode (c : Int)).size := by
  rw [enc_list c h]
  repeat' split
  all_goals simp [ByteArray.size]
/-- A text made of characters has those characters. -/
theorem runes_enc (l : List Nat) : ∀ (a : ByteArray), okL l → runesI (a ++ encL l) a.size = l := by
  induction l with
  | nil =>
    intro a _
    rw [encL_nil, runesI_end _ _ (by rw [ByteArray.size_append]; simp)]
  | cons c l ih =>
    intro a h
    have hc := h c (List.mem_cons_self ..)
    have hp := enc_pos c hc
    rw [encL_cons, runesI_go _ _ (by rw [ByteArray.size_append, ByteArray.size_append]; omega), decode_enc a (encL l) c hc]
    simp only
    have e : a ++ (Utf8.encode (c : Int) ++ encL l) = (a ++ Utf8.encode (c : Int)) ++ encL l := (ByteArray.append_assoc ..).symm
    rw [e, show a.size + (Utf8.encode (c : Int)).size = (a ++ Utf8.encode (c : Int)).size by rw [ByteArray.size_append]]
    rw [ih (a ++ Utf8.encode (c : Int)) (fun x hx => h x (List.mem_cons_of_mem _ hx))]
theorem runes_enc0 (l : List Nat) (h : okL l) : runesI (encL l) 0 = l := by
  have := runes_enc l ByteArray.empty h
  rw [emp_app] at this
  exact this
/-- What decoding yields is a character. -/
theorem decode_ok (s : ByteArray) (pos : Nat) : okC (Utf8.decode s pos).1 := by
  unfold okC Utf8.decode
  dsimp only
  (repeat' split) <;> simp_all [Utf8.valid, Utf8.runeError] <;> omega
theorem runesI_ok (s : ByteArray) (d : Nat) : ∀ pos, s.size - pos ≤ d → okL (runesI s pos) := by
  induction d with
  | zero => exact fun pos h => by rw [runesI_end s pos (by omega)]; exact fun c hc => by cases hc
  | succ d ih =>
    intro pos h
    by_cases hp : pos < s.size
    · have hw := decode_wide s pos
      rw [runesI_go s pos hp]
      intro c hc
      rcases List.mem_cons.1 hc with rfl | hc
      · exact decode_ok s pos
      · exact ih _ (by omega) c hc
    · rw [runesI_end s pos hp]; exact fun c hc => by cases hc
theorem okL_take {l : List Nat} (h : okL l) (k : Nat) : okL (l.take k) := fun c hc => h c (List.mem_of_mem_take hc)
theorem mark_is : mark = encL [8230] := by rfl
theorem ok_mark : okL [8230] := fun c hc => by
  have : c = 8230 := by simpa using hc
  subst this
  unfold okC; omega
theorem okL_append {l m : List Nat} (h : okL l) (k : okL m) : okL (l ++ m) := fun c hc => (List.mem_append.1 hc).elim (h c) (k c)
/-- How many characters the reference says that a text has. -/
theorem runes_is (s : ByteArray) (hs : s.size ≤ 10000000) (d : Nat) : ∀ (pos k n : Nat), s.size - pos ≤ d → pos ≤ s.size → n ≤ pos → d + 14 ≤ k → spec_Runes.l0 k (s.extract pos s.size) (n : Int) = some ((n + (runesI s pos).length : Nat) : Int) := by
  have ends : ∀ pos k (n : Nat), ¬ pos < s.size → 1 ≤ k → spec_Runes.l0 k (s.extract pos s.size) (n : Int) = some ((n + (runesI s pos).length : Nat) : Int) := fun pos k n h hk => by
    obtain ⟨k, rfl⟩ : ∃ m, k = m + 1 := ⟨k - 1, by omega⟩
    have hz : (s.extract pos s.size).size = s.size - pos := by rw [ByteArray.size_extract]; omega
    simp only [spec_Runes.l0]
    rw [if_neg (by omega), runesI_end s pos h]
    rfl
  induction d with
  | zero => exact fun pos k n hd _ _ hk => ends pos k n (by omega) (by omega)
  | succ d ih =>
    intro pos k n hd hp hn hk
    by_cases h : pos < s.size
    · obtain ⟨k, rfl⟩ : ∃ m, k = m + 1 := ⟨k - 1, by omega⟩
      have hz : (s.extract pos s.size).size = s.size - pos := by rw [ByteArray.size_extract]; omega
      have hf := decode_fits s pos h
      have hl := runeLen_is s pos h (k - 12)
      rw [Nat.sub_add_cancel (by omega : 12 ≤ k)] at hl
      have he := ext_extR s pos _ hf.2
      have hi := ih (pos + (Utf8.decode s pos).2) k (n + 1) (by omega) hf.2 (by omega) (by omega)
      have hw : wrap64 ((n : Int) + 1) = ((n + 1 : Nat) : Int) := waddR n 1 (by omega)
      rw [runesI_go s pos h]
      simp only [spec_Runes.l0]
      rw [if_pos (by omega), hl]
      simp only [Option.bind_some]
      rw [Int.toNat_natCast, he, hw, hi]
      clear hl he hw hi ih
      rw [if_pos (by omega), if_pos (by omega)]
      congr 2
      simp
      omega
    · exact ends pos k n h (by omega)
theorem runes_all (s : ByteArray) (hs : s.size ≤ 10000000) (k : Nat) (hk : s.size + 14 ≤ k) : spec_Runes.f k s = some (((runesI s 0).length : Nat) : Int) := by
  have := runes_is s hs s.size 0 k 0 (by omega) (by omega) (by omega) hk
  rw [ext_allR] at this
  rw [Nat.zero_add] at this
  exact this
/-- A text made of characters is UTF-8. -/
theorem valid_enc (l : List Nat) (hl : okL l) : ∀ n, Lib.validGoD n (encL l).data.toList = true := by
  induction l with
  | nil =>
    intro n
    cases n with
    | zero => rfl
    | succ n => rw [Lib.validGoD, if_pos (by rw [encL_nil]; rfl)]
  | cons c l ih =>
    intro n
    cases n with
    | zero => rfl
    | succ n =>
      have hc := hl c (List.mem_cons_self ..)
      have hp := enc_pos c hc
      have hd : Lib.decodeL (encL (c :: l)).data.toList = (c, (Utf8.encode (c : Int)).size) := by
        have := decode_enc ByteArray.empty (encL l) c hc
        rw [emp_app, ← encL_cons, emp_size] at this
        unfold Lib.decodeL
        rw [ba_eta]
        exact this
      have hdrop : (encL (c :: l)).data.toList.drop (Utf8.encode (c : Int)).size = (encL l).data.toList := by
        rw [encL_cons]
        have e : (Utf8.encode (c : Int) ++ encL l).data.toList = (Utf8.encode (c : Int)).data.toList ++ (encL l).data.toList := by simp
        rw [e, List.drop_append_of_le_length (by rw [lsz]; omega), List.drop_eq_nil_of_le (by rw [lsz]; omega), List.nil_append]
      rw [Lib.validGoD]
      split
      · rfl
      rw [hd]
      simp only
      rw [if_neg, hdrop]
      · exact ih (fun x hx => hl x (List.mem_cons_of_mem _ hx)) n
      · rintro ⟨rfl, h1⟩
        rw [enc_list 65533 hc] at h1
        revert h1
        decide
theorem valid_encL (l : List Nat) (hl : okL l) : Lib.validD (encL l).data.toList = true := valid_enc l hl _
end Go.Proofs.YtkbaihcamimnjaaDoor.Q
