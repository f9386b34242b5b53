/- sort.Sort of names of labels: what it does to a row of the call's own. No condition beyond the length named. Sums of 64 bits by FNV-1a: what the library's hashAdd and the reference's fnv compute, as one fold over bytes. The fingerprint of a set of labels and the signature of a map of strings. No condition beyond the lengths named. The fingerprint of a set and its signature: what impl.SetPrint and impl.Signature return. No condition beyond the lengths named. -/
import Derived.Test.YtikhlolhodgegaaHSet2
import Derived.Test.YtikhlolhodgegaaHSSort
import Derived.Deep.QuietTactic
import Derived.RegionTactic
import Derived.Test.YtikhlolhodgegaaHKinds
import Derived.Test.YtikhlolhodgegaaQmodelhashAdd
import Derived.Test.YtikhlolhodgegaaQmodelhashAddByte
import Derived.Test.YtikhlolhodgegaaQmodelhashNew
import Derived.Test.YtikhlolhodgegaaQspecfnv
import Derived.Test.YtikhlolhodgegaaHKv1
set_option linter.unusedVariables false
set_option linter.unusedSimpArgs false
namespace Go.Proofs.Ytikhlolhodgegaa.Q
open Go.RowKit Go.Sort Go.Proofs.YtikhlolhodgegaaW.PrintWords Go.Proofs.YtikhlolhodgegaaW.PrintLast Go.Proofs.YtikhlolhodgegaaW.PrintMore
open Go.Proofs (encStr)
def ltS (x y : List UInt8) : Bool := decide (x < y)
theorem swoS : SWO ltS := ⟨fun x => by simp [ltS, List.lt_irrefl], fun x y z h1 h2 => by simp only [ltS, decide_eq_true_eq] at *; exact List.lt_trans h1 h2, fun x y z h1 h2 => by
  simp only [ltS, decide_eq_false_iff_not] at *
  exact List.not_lt.2 (List.le_trans (List.not_lt.1 h2) (List.not_lt.1 h1))⟩
theorem n_len_reached (p : Option Addr) (n c : Nat) : Reaches Try.prog 112 (.slice p n c) "Len" 168 := ⟨fun _ => by kernel_rfl, enters_of Try.func168 (by kernel_rfl) rfl⟩
theorem n_less_reached (p : Option Addr) (n c : Nat) : Reaches Try.prog 112 (.slice p n c) "Less" 169 := ⟨fun _ => by kernel_rfl, enters_of Try.func169 (by kernel_rfl) rfl⟩
theorem n_swap_reached (p : Option Addr) (n c : Nat) : Reaches Try.prog 112 (.slice p n c) "Swap" 171 := ⟨fun _ => by kernel_rfl, enters_of Try.func171 (by kernel_rfl) rfl⟩
set_option maxHeartbeats 2000000 in
theorem n_Len (p : Option Addr) (n c : Nat) (W : World) : LenM Try.prog 168 (.slice p n c) n W := by
  unfold LenM
  go_enter Try.func168, Try.ntmps168
  go_wp2
  go_ret
  exact ⟨rfl, 0, rfl⟩
set_option maxHeartbeats 2000000 in
theorem n_Less (blk off c size : Nat) (W : World) (G : Nat → List UInt8) (hc : ∀ t, t < size → W.cell? ⟨blk, off + t, none⟩ = some (encStr (G t))) (i j : Nat) (hi : i < size) (hj : j < size) (_hsz : size < 4611686018427387904) :
    Calls Try.prog 169 #[.slice (some ⟨blk, off, none⟩) size c, .int .i64 i, .int .i64 j] W fun e w' => e = .returned (.bool (ltS (G i) (G j))) ∧ ∃ q, w' = W.drewN q := by
  have ci := hc i hi
  have cj := hc j hj
  go_enter Try.func169, Try.ntmps169
  go_wp2
  go_quiet (fail)
  go_wp2
  go_ret
  exact ⟨by rw [ltS, ← bless_eqS]; rfl, nq, rfl⟩
set_option maxHeartbeats 2000000 in
theorem n_Swap (blk off c size : Nat) (W : World) (x y : List UInt8) (i j : Nat) (hi : i < size) (hj : j < size) (_hsz : size < 4611686018427387904)
    (ci : W.cell? ⟨blk, off + i, none⟩ = some (encStr x)) (cj : W.cell? ⟨blk, off + j, none⟩ = some (encStr y)) (fi : W.frozen? ⟨blk, off + i, none⟩ = false) (fj : W.frozen? ⟨blk, off + j, none⟩ = false) :
    Calls Try.prog 171 #[.slice (some ⟨blk, off, none⟩) size c, .int .i64 i, .int .i64 j] W fun e w' => e = .returned (.tuple #[]) ∧ ∃ q, w' = ((W.setCell ⟨blk, off + i, none⟩ (encStr y)).setCell ⟨blk, off + j, none⟩ (encStr x)).drewN q := by
  obtain ⟨v', hy'⟩ := cell?_setCell_some (w := W) (p := ⟨blk, off + i, none⟩) (x := encStr y) (q := ⟨blk, off + j, none⟩) cj
  go_enter Try.func171, Try.ntmps171
  go_wp2
  go_region
  all_goals (try go_wp2)
  all_goals go_end0
  all_goals exact ⟨rfl, 1, rfl⟩
theorem n_LessM (blk off c : Nat) (d : Array (List UInt8)) (w : World) (hH : Holds encStr w blk off d) (hblk : blk < w.heap.size) (hsz : d.size < 4611686018427387904) :
    LessM Try.prog 169 (.slice (some ⟨blk, off, none⟩) d.size c) encStr ltS blk off d.size w := fun m os dk hs i j hi hj =>
  n_Less blk off c d.size _ (fun t => dk[t]!) (fun t ht => ((holds_sortWorld encStr w blk off m d dk os hblk hH hs) t (by omega)).1) i j hi hj hsz
theorem n_SwapM (blk off c size : Nat) (hsz : size < 4611686018427387904) : SwapM Try.prog 171 (.slice (some ⟨blk, off, none⟩) size c) encStr blk off size := fun W dk hH hs i j hi hj =>
  n_Swap blk off c size W dk[i]! dk[j]! i j hi hj hsz (hH i (by omega)).1 (hH j (by omega)).1 (hH i (by omega)).2 (hH j (by omega)).2
/-- A sorted rearrangement is the sorted list. -/
theorem sorted_is (ss : List (List UInt8)) (d' : Array (List UInt8)) (hp : PermIn 0 ss.toArray.size ss.toArray d') (hs : SortedIn ltS 0 ss.toArray.size d') : d'.toList = srtL ss := by
  have h1 : d'.size = ss.length := by have := hp.1; simpa using this
  have hperm : d'.toList.Perm ss := by
    have h := hp.2.2
    have e1 : (d'.extract 0 ss.toArray.size) = d' := by
      have : ss.toArray.size = d'.size := by simp [h1]
      rw [this, Array.extract_size]
    rw [e1, Array.extract_size] at h
    simpa using h
  have hsrt : d'.toList.Pairwise (· ≤ ·) := by
    rw [List.pairwise_iff_getElem]
    intro i j hi hj hij
    have hi' : i < d'.size := by simpa using hi
    have hj' : j < d'.size := by simpa using hj
    have := hs i j (Nat.zero_le _) hij (by simp; omega)
    rw [getElem!_pos d' i hi', getElem!_pos d' j hj'] at this
    simp only [ltS, decide_eq_false_iff_not] at this
    simpa using List.not_lt.1 this
  have e : srtL d'.toList = srtL ss := mergeSort_of_perm hperm
  rw [← e]
  unfold srtL
  exact (List.mergeSort_of_pairwise (hsrt.imp (fun h => by simpa using h))).symm
theorem srt_tiny (ss : List (List UInt8)) (h : ss.length ≤ 1) : srt ss = ss.map byB := by
  unfold srt srtL
  rw [List.mergeSort_of_pairwise]
  match ss, h with
  | [], _ => exact List.Pairwise.nil
  | [a], _ => simp
theorem sortN_calls (v : Value) (ss : List (List UInt8)) (base : Nat) (w : World) (hR : Kd.R Kd.string 105 w base (fun _ => True) v (ss.map byB)) (hl : ss.length ≤ 10000000000) :
    Calls Try.prog 74 #[.iface 112 v] w fun e w' => e = .returned (.tuple #[]) ∧ Kd.R Kd.string 105 w' base (fun _ => True) v (srt ss) ∧ w.grownBy w' v.ownBlock := by
  obtain ⟨A, c, ev, hc, _⟩ := Kd.R_reads hR
  rw [List.length_map] at ev hc
  by_cases h2 : 2 ≤ ss.length
  · have ho := Kd.own_of_R hR
    rw [encs_byB, List.length_map] at ho
    rcases ho.2 with ⟨_, hn⟩ | ⟨g, cap, cur, rfl, hbase, hb, h1, h2', h3, h4⟩
    · omega
    · have hH : Holds encStr w g 0 ss.toArray := holds_of_block hb (by simpa using h4)
      have hgl : g < w.heap.size := (Array.getElem?_eq_some_iff.1 hb).1
      have hsz : ss.toArray.size = ss.length := by simp
      have hM := n_LessM g 0 cap ss.toArray w hH hgl (by omega)
      have hL := n_Len (some ⟨g, 0, none⟩) ss.length cap w
      rw [← hsz] at hL
      have hS := n_SwapM g 0 cap ss.toArray.size (by omega)
      have hcall := Try.sort_Sort_sorted 112 (.slice (some ⟨g, 0, none⟩) ss.toArray.size cap) 168 169 171 (n_len_reached _ _ _) (n_less_reached _ _ _) (n_swap_reached _ _ _) encStr ltS swoS g 0 ss.toArray (by omega) (by omega) w hL hM hS hH hgl
      rw [hsz] at hcall
      refine hcall.mono ?_
      rintro e w' ⟨rfl, d', n, os, hp, hs, rfl⟩
      rw [← hsz] at hp hs
      have hd := sorted_is ss d' hp hs
      have hdd : d' = (srtL ss).toArray := by rw [← hd]
      subst hdd
      have hlen : (srtL ss).length = ss.length := by simp [srtL]
      refine ⟨rfl, ?_, grownBy_sorted _⟩
      refine Kd.R_of_own ?_ (fun _ _ => trivial)
      unfold srt
      rw [encs_byB, List.length_map, hlen]
      exact ownsRow_sorted (n := n) (os := os) (ss := ss) (ts := srtL ss) hlen hbase hb h1 h2' h3
  · subst ev
    refine (Try.sort_Sort_tiny (α := List UInt8) 112 _ 168 (n_len_reached _ _ _) ss.length (by omega) w (n_Len _ _ _ _)).mono ?_
    rintro e w' ⟨rfl, q, rfl⟩
    refine ⟨rfl, ?_, drawn_grown ⟨q, rfl⟩ _⟩
    rw [srt_tiny ss (by omega)]
    exact Kd.R_drewN hR _
end Go.Proofs.Ytikhlolhodgegaa.Q
namespace Go.Proofs.Ytikhlolhodgegaa.Q
open Go.RowKit Go.Proofs.YtikhlolhodgegaaW.PrintWords Go.Proofs.YtikhlolhodgegaaW.PrintLast Go.Proofs.YtikhlolhodgegaaW.PrintMore

/-- One byte more. -/
def fnvB (h b : Int) : Int := IntKind.u64.wrap ((Go.bits .xor .u64 h (IntKind.u64.wrap b)) * 1099511628211)
def fnvL (h : Int) (l : List UInt8) : Int := l.foldl (fun h b => fnvB h (b.toNat : Int)) h
def fnvS (h : Int) (s : ByteArray) : Int := fnvL h s.data.toList
theorem bt_list (s : ByteArray) (n : Nat) (h : n < s.size) : s.data.toList.drop n = (s[n]'h) :: s.data.toList.drop (n + 1) := by
  have h' : n < s.data.toList.length := by simpa using h
  rw [List.drop_eq_getElem_cons h']
  rfl
theorem bt_nat' (s : ByteArray) (n : Nat) (h : n < s.size) : bt s (n : Int) = ((s[n]'h).toNat : Int) := by
  have := (bt_at s (n : Int)) (by simpa using h)
  rw [← this]; simp
theorem hashAdd_from (s : ByteArray) (hs : s.size ≤ 9223372036854775807) (d : Nat) : ∀ (n k : Nat) (h : Int), n + d = s.size → d < k → model_hashAdd.l0 k h s n = some (fnvL h (s.data.toList.drop n)) := by
  induction d with
  | zero =>
    intro n k h hn hk
    obtain ⟨k, rfl⟩ : ∃ m, k = m + 1 := ⟨k - 1, by omega⟩
    simp only [model_hashAdd.l0]
    rw [if_neg (by omega), List.drop_of_length_le (by simp; omega)]
    rfl
  | succ d ih =>
    intro n k h hn hk
    obtain ⟨k, rfl⟩ : ∃ m, k = m + 1 := ⟨k - 1, by omega⟩
    simp only [model_hashAdd.l0]
    have e : wrap64 ((n : Int) + 1) = ((n + 1 : Nat) : Int) := by unfold wrap64; omega
    rw [if_pos (by omega), if_pos (by omega), e, ih (n + 1) k _ (by omega) (by omega), bt_list s n (by omega), bt_nat' s n (by omega)]
    rfl
theorem hashAdd_is (h : Int) (s : ByteArray) (hs : s.size ≤ 9223372036854775807) : model_hashAdd.f (s.size + 1) h s = some (fnvS h s) := by
  have := hashAdd_from s hs s.size 0 (s.size + 1) h (by omega) (by omega)
  simpa [model_hashAdd.f, fnvS] using this
theorem fnv_from (s : ByteArray) (hs : s.size ≤ 9223372036854775807) (d : Nat) : ∀ (n k : Nat) (h : Int), n + d = s.size → d < k → spec_fnv.l0 k h s (s.size : Int) n = some (fnvL h (s.data.toList.drop n)) := by
  induction d with
  | zero =>
    intro n k h hn hk
    obtain ⟨k, rfl⟩ : ∃ m, k = m + 1 := ⟨k - 1, by omega⟩
    simp only [spec_fnv.l0]
    rw [if_neg (by omega), List.drop_of_length_le (by simp; omega)]
    rfl
  | succ d ih =>
    intro n k h hn hk
    obtain ⟨k, rfl⟩ : ∃ m, k = m + 1 := ⟨k - 1, by omega⟩
    simp only [spec_fnv.l0]
    have e : wrap64 ((n : Int) + 1) = ((n + 1 : Nat) : Int) := by unfold wrap64; omega
    rw [if_pos (by omega), if_pos (by omega), if_pos (by omega), e, ih (n + 1) k _ (by omega) (by omega), bt_list s n (by omega), bt_nat' s n (by omega)]
    rfl
theorem fnv_is (k : Nat) (h : Int) (s : ByteArray) (hs : s.size ≤ 9223372036854775807) (hk : s.size < k) : spec_fnv.f k h s = some (fnvS h s) := by
  have := fnv_from s hs s.size 0 k h (by omega) (by omega)
  simpa [spec_fnv.f, fnvS] using this
theorem hashAddByte_is (h b : Int) : model_hashAddByte.f h b = some (fnvB h b) := rfl
theorem fnv_sep (h : Int) : fnvS h (⟨#[255]⟩ : ByteArray) = fnvB h 255 := rfl
end Go.Proofs.Ytikhlolhodgegaa.Q
namespace Go.Proofs.Ytikhlolhodgegaa.Q
open Go.RowKit Go.Proofs.YtikhlolhodgegaaW.PrintWords Go.Proofs.YtikhlolhodgegaaW.PrintLast Go.Proofs.YtikhlolhodgegaaW.PrintMore
open Go.Maps (Keyed string_keyed)
open Go.Proofs (encStr)
attribute [local go_sem] max2_int min2_int max_two min_two max_three min_three max_four min_four
def sumP (D : DataW Unit) (h : Int) (s : ByteArray) : Int := fnvB (fnvS (fnvB (fnvS h s) 255) (valD D s)) 255
def sumL (D : DataW Unit) (ns : List ByteArray) : Int := ns.foldl (sumP D) 14695981039346656037
theorem hashAddP_calls (h : Int) (s : ByteArray) (w : World) (hs : s.size ≤ 9223372036854775807) : Calls Try.prog 95 #[.int .u64 h, .string s] w fun e w' => e = .returned (.int .u64 (fnvS h s)) ∧ Drawn0 w w' :=
  model_hashAdd.calls _ _ _ _ _ (hashAdd_is h s hs)
theorem infoLN : (Try.prog.info? 105).map (fun i => (i.zero, i.size, i.bytes)) = some (some (.string ⟨#[]⟩), 1, 16) := by kernel_rfl
theorem keysN_empty {w : World} {b n : Nat} {D : DataW Unit} (h : OwnsSet w b n D) (hz : Maps.size D = 0) : strKeys D = [] := by
  obtain ⟨es, rfl, _⟩ := World.ownsMap.entries h keyed67
  cases es with
  | nil => rfl
  | cons a l => simp [Maps.size_eq] at hz
theorem keysK_empty {w : World} {b n : Nat} {D : DataW Unit} (h : OwnsKv w b n D) (hz : Maps.size D = 0) : strKeys D = [] := by
  obtain ⟨es, rfl, _⟩ := World.ownsMap.entries h keyedS
  cases es with
  | nil => rfl
  | cons a l => simp [Maps.size_eq] at hz
theorem sum_empty (D : DataW Unit) : sumL D (srt []) = 14695981039346656037 := by simp [sumL, srt, srtL]
set_option maxRecDepth 100000 in
set_option maxHeartbeats 1600000 in
theorem print_calls (b n : Nat) (D : DataW Unit) (w : World) (hown : OwnsSet w b n D) (hsz : Maps.size D ≤ 1000000000) :
    Calls Try.prog 93 #[.map (some b)] w fun e w' => ∃ ks : List (List UInt8), e = .returned (.int .u64 (sumL D (srt ks))) ∧ ks.Perm (strKeys D) ∧ Below w.heap.size w w' := by
  have hbl := World.ownsMap.lt hown
  have HO := Aside0.mk hown
  have HBL := Aside0.mk hbl
  clear hown hbl
  have HB := Aside0.mk (Below.refl w.heap.size w)
  obtain ⟨iS, hiS, hzS, hsS, hbS⟩ := info_parts infoLN
  by_cases hz : Maps.size D = 0
  · have hz1 : (((Maps.size D : Nat) : Int) == 0) = true := beq_iff_eq.2 (by omega)
    have hz2 : (Maps.size D == 0) = true := beq_iff_eq.2 hz
    have HZ := Aside0.mk hz
    clear hz
    go_enter Try.func93, Try.ntmps93
    go_wp2_with (at_len; refine wpList_len_own _ rfl _ 65 rfl 105 110 Try.underlying65 _ b n _ rfl HO.out ?_)
    go_ret
    exact ⟨[], by rw [sum_empty]; rfl, by rw [keysN_empty HO.out HZ.out], HB.out⟩
  · have hz1 : (((Maps.size D : Nat) : Int) == 0) = false := beq_eq_false_iff_ne.2 (by omega)
    have hz2 : (Maps.size D == 0) = false := beq_eq_false_iff_ne.2 hz
    have HZ := Aside0.mk hz
    clear hz
    go_enter Try.func93, Try.ntmps93
    go_wp2_with (first
      | (at_len; refine wpList_len_own _ rfl _ 65 rfl 105 110 Try.underlying65 _ b n _ rfl HO.out ?_)
      | (at_make; refine wpList_make_own _ rfl _ _ 112 rfl w.heap.size 105 iS _ 1 Try.underlying112 hiS hzS hsS .i64 .i64 _ (Maps.size D) rfl rfl rfl (by rw [hbS]; omega) (by unfold maxLen; omega) (Nat.le_refl _) ?_; intro w2 ho2 hg2; have HK2 := Aside0.mk ho2; have HB2 := Aside0.mk (HB.out.grown hg2 HB.out.size (fun j hj => by cases hj)); have HO2 := Aside0.mk (own_R_below HO.out HB2.out); have HL2 : Aside0 (w.heap.size < w2.heap.size) := ⟨(World.ownsRow.lt ho2 _ rfl).2⟩; clear ho2 hg2)
      | (at_range; refine wpList_range_own _ rfl _ 65 rfl 105 110 keyed67 Try.underlying65 _ b n _ rfl HO2.out ?_; intro w0 hrg0 hg0 hs0; have HRG := Aside0.mk hrg0; have HG0 := Aside0.mk hg0; have HS0 : Aside0 (w2.heap.size < w0.heap.size) := ⟨by omega⟩; clear hrg0 hg0 hs0))
    go_frame
    generalize hr : w2.heap.size = r at *
    clear hr
    go_loopw [3] (fun v3 wr => ∃ (left : Lit → Bool) (cnt : Nat) (ks : List (List UInt8)), Aside0 (wr.ranges Try.prog 105 (plainElem Try.prog 110) b r n D left cnt) ∧ Aside0 (ks.length + cnt ≤ Maps.size D) ∧ Aside0 (Kd.R Kd.string 105 wr w.heap.size (fun k => k ≠ r) v3 (ks.map byB)) ∧ Aside0 (r < wr.heap.size) ∧ Aside0 (Collected D left ks) ∧ Aside0 (Below w.heap.size w wr)) (fun _ wr => wr.rangeLeft b r)
    case atStart => exact ⟨_, _, [], HRG, ⟨by simp⟩, ⟨R_made Kd.string (World.ownsRow.kept HK2.out HG0.out (.inr (by simp [Value.ownBlock]))) (by have := HL2.out; omega)⟩, HS0, ⟨Collected.start D⟩, ⟨HB2.out.grown HG0.out HB2.out.size (fun j hj => by cases hj)⟩⟩
    case round =>
      obtain ⟨left, cnt, ks, HR, HCN, HN, HS, HC, HB⟩ := hrel
      go_wp2_with (at_next; refine wpList_next_ranges _ rfl _ rfl 105 keyed67 (plainElem Try.prog 110) encStr Value.string (fun key kl hk => by obtain ⟨x, hx, _⟩ := Maps.keyOf_str Try.underlying105 hk; exact ⟨x, hx⟩) (fun v y hv => by obtain ⟨c, rfl, _⟩ := plainElem_string_inv Try.underlying110 hv; exact ⟨c, rfl⟩) b r n _ _ _ rfl HR.out ?_ ?_)
      · intro hc0 hl0
        have HL := Aside0.mk hl0
        clear hc0 hl0
        have HP := Aside0.mk (HC.out.perm HO.out keyed67 Try.underlying105 HL.out)
        have hl : ks.length ≤ 1000000000 := by rw [perm_len HP.out HO.out]; exact hsz
        have HLE : Aside0 (∀ s ∈ srt ks, s.size ≤ maxLen) := ⟨fun s hs => by
          have := strKeys_le HO.out Try.underlying105 _ (HP.out.mem_iff.1 (srt_mem hs))
          rwa [Array.length_toList] at this⟩
        go_wp2_with (go_at_call 74; refine (sortN_calls u3 ks w.heap.size _ (Kd.R_mono HN.out (fun _ _ => trivial)) (by omega)).mono ?_; rintro e w4 ⟨rfl, hr, hg⟩; have HB4 := Aside0.mk (HB.out.grown hg HB.out.size (fun j hj => Kd.R_base HN.out _ hj)); obtain ⟨A, c, e3, hc3, hC⟩ := Kd.R_reads hr; subst e3; have HNC := Aside0.mk hC; clear hr hg hC)
        have hll : ((srt ks).length : Int) ≤ 1000000000 := by rw [srt_len]; omega
        generalize hns : srt ks = ns at *
        have HX := Aside0.mk (Drawn0.refl w4)
        go_wp2_with (go_at_call 94; refine (model_hashNew.calls 14695981039346656037 _ rfl).mono ?_; rintro e w5 ⟨rfl, hd⟩; have HY := Aside0.mk (drawn_trans HX.out hd); clear HX hd; have HX := HY; clear HY)
        go_loopw [5, 30] (fun v5 v30 wx => ∃ x : Int, 0 ≤ x ∧ x ≤ (ns.length : Int) ∧ v30 = .int .i64 x ∧ v5 = .int .u64 ((ns.take x.toNat).foldl (sumP D) 14695981039346656037) ∧ Aside0 (Drawn0 w4 wx)) (fun _ v30 _ => ((ns.length : Int) - intOf v30).toNat)
        case atStart => exact ⟨0, by omega, by omega, rfl, rfl, HX⟩
        case round =>
          obtain ⟨x, hx, hxl, rfl, rfl, HX⟩ := hrel
          by_cases hlt : x < (ns.length : Int)
          · obtain ⟨ad, e1, hx0⟩ := Kd.at_string (Kd.C_below HNC.out HX.out.below) x hx hlt
            cases e1
            have hmt := rd_memS ns x hx hlt
            have HOW := Aside0.mk (own_R_below HO.out (HB4.out.trans (HX.out.below.mono HB4.out.size)))
            generalize rdOf ByteArray.empty ns x = s at *
            have hss := HLE.out s hmt.1
            have hst := Aside0.mk hmt.2
            have HKY : Aside0 (keyOf Try.prog 105 (.string s) = some (.string s.data.toList)) := ⟨WideMaps.keyOf_string_mk Try.underlying105 hss⟩
            have HS1 : Aside0 (s.size ≤ 9223372036854775807) := ⟨by unfold maxLen at hss; omega⟩
            have hp := eq_true hx
            have hq := eq_true hlt
            clear hmt hss
            generalize hh0 : (ns.take x.toNat).foldl (sumP D) 14695981039346656037 = h0 at *
            have HH0 := Aside0.mk hh0
            clear hh0
            have HZ0 := Aside0.mk (Drawn0.refl wr)
            go_wp2_with (first | (go_at_call 96; refine (model_hashAddByte.calls _ _ _ _ (hashAddByte_is _ _)).mono ?_; rintro e w5 ⟨rfl, hd⟩; have HY := Aside0.mk (drawn_trans HZ0.out hd); clear HZ0 hd; have HZ0 := HY; clear HY) | (go_at_call 95; refine (hashAddP_calls _ _ _ (by first | exact HS1.out | exact HSL.out)).mono ?_; rintro e w4 ⟨rfl, hd⟩; have HY := Aside0.mk (drawn_trans HZ0.out hd); clear HZ0 hd; have HZ0 := HY; clear HY) | (at_lookup; refine lookup_str _ rfl _ _ 65 rfl 105 110 keyed67 Try.underlying65 Try.underlying110 (zero68 _) b n D rfl (own_R_below HOW.out HZ0.out.below) _ s rfl HKY.out ?_; intro s2 hs2 hsl2; have HSV := Aside0.mk hs2; have HSL : Aside0 (s2.size ≤ 9223372036854775807) := ⟨by unfold maxLen at hsl2; omega⟩; clear hs2 hsl2))
            go_roundw
            case rel => exact ⟨x + 1, by omega, by omega, by go_simp, by rw [hst.out, List.foldl_append, HH0.out, HSV.out]; rfl, ⟨drawn_trans HX.out HZ0.out⟩⟩
            case measure => simp [intOf]; omega
          · have hxe : x = (ns.length : Int) := by omega
            subst hxe
            rw [Int.toNat_natCast, List.take_length]
            go_wp2
            go_ret
            exact ⟨ks, by rw [hns]; rfl, HP.out, HB4.out.trans (HX.out.below.mono HB4.out.size)⟩
      · intro x c kl yd yp w3 cnt2 hkey hlk hv hat hrg2 hlt hg2 hs2 hen
        obtain ⟨x', ex, rfl, hxl⟩ := Maps.keyOf_str Try.underlying105 hkey
        obtain rfl : x = x' := encStr_inj ex
        have HC2 := Aside0.mk (HC.out.step hlk hat)
        have HR2 := Aside0.mk hrg2
        have HN2 := Aside0.mk (Kd.R_grown HN.out hg2 (fun k hk e => hk (by injection e)))
        have HB3 := Aside0.mk (HB.out.grown hg2 HB.out.size (fun j hj => by cases hj; exact Nat.le_of_lt HL2.out))
        have HS2 : Aside0 (r < w3.heap.size) := ⟨by rw [hs2]; exact HS.out⟩
        have HF : Aside0 (∀ k, w3.heap.size ≤ k → k ≠ r) := ⟨fun k hk => by have := HS2.out; omega⟩
        have HLT := Aside0.mk hlt
        have HCN2 : Aside0 (ks.length + 1 + cnt2 ≤ Maps.size D) := ⟨by have := HCN.out; omega⟩
        have hkl : ks.length ≤ 1000000000 := by have := HCN2.out; omega
        clear hkey hlk hv hat hrg2 hlt hg2 hs2 ex hxl
        go_wp2_with (at_builtin; refine Kd.R_append Kd.string (w0 := w) w.heap.size rfl (.tmp 20) (.tmp 22) 112 105 (.string ⟨#[]⟩) 16 rfl Try.underlying112 infoLN rfl (by decide) (by omega) u3 (ks.map byB) (byB x) [.string (byB x)] (fun k => k ≠ r) (fun _ => False) rfl (by first | (go_simp; done) | (go_simp; rfl)) rfl (fun _ hk => hk.elim) HF.out HN2.out HB3.out ?aS ?aL ?_; (case aS => exact HB3.out.size); (case aL => rw [List.length_map]; omega); intro v1 w4 ho hb hg4 hat4; have HO4 := Aside0.mk ho; have HB4 := Aside0.mk hb; have HG4 := Aside0.mk hg4; clear ho hb hg4 hat4)
        have HR4 := Aside0.mk (World.ranges.kept HR2.out HG4.out (fun e => by have := Kd.R_base HN2.out _ e.symm; have := HBL.out; omega) (fun e => HN2.out.1 _ e.symm rfl))
        go_roundw
        case rel => exact ⟨_, cnt2, ks ++ [x], HR4, ⟨by rw [List.length_append]; exact HCN2.out⟩, by simpa using HO4, ⟨Nat.lt_of_lt_of_le HS2.out HG4.out.size⟩, HC2, HB4⟩
        case measure => rw [HR4.out.left_eq, HR.out.left_eq]; exact HLT.out
set_option maxRecDepth 100000 in
set_option maxHeartbeats 1600000 in
theorem sign_calls (b n : Nat) (D : DataW Unit) (w : World) (hown : OwnsKv w b n D) (hsz : Maps.size D ≤ 1000000000) :
    Calls Try.prog 80 #[.map (some b)] w fun e w' => ∃ ks : List (List UInt8), e = .returned (.int .u64 (sumL D (srt ks))) ∧ ks.Perm (strKeys D) ∧ Below w.heap.size w w' := by
  have hbl := World.ownsMap.lt hown
  have HO := Aside0.mk hown
  have HBL := Aside0.mk hbl
  clear hown hbl
  have HB := Aside0.mk (Below.refl w.heap.size w)
  obtain ⟨iS, hiS, hzS, hsS, hbS⟩ := info_parts infoStr
  by_cases hz : Maps.size D = 0
  · have hz1 : (((Maps.size D : Nat) : Int) == 0) = true := beq_iff_eq.2 (by omega)
    have hz2 : (Maps.size D == 0) = true := beq_iff_eq.2 hz
    have HZ := Aside0.mk hz
    clear hz
    go_enter Try.func80, Try.ntmps80
    go_wp2_with (at_len; refine wpList_len_own _ rfl _ 83 rfl 9 9 Try.underlying83 _ b n _ rfl HO.out ?_)
    go_ret
    exact ⟨[], by rw [sum_empty]; rfl, by rw [keysK_empty HO.out HZ.out], HB.out⟩
  · have hz1 : (((Maps.size D : Nat) : Int) == 0) = false := beq_eq_false_iff_ne.2 (by omega)
    have hz2 : (Maps.size D == 0) = false := beq_eq_false_iff_ne.2 hz
    have HZ := Aside0.mk hz
    clear hz
    go_enter Try.func80, Try.ntmps80
    go_wp2_with (first
      | (at_len; refine wpList_len_own _ rfl _ 83 rfl 9 9 Try.underlying83 _ b n _ rfl HO.out ?_)
      | (at_make; refine wpList_make_own _ rfl _ _ 38 rfl w.heap.size 9 iS _ 1 Try.underlying38 hiS hzS hsS .i64 .i64 _ (Maps.size D) rfl rfl rfl (by rw [hbS]; omega) (by unfold maxLen; omega) (Nat.le_refl _) ?_; intro w2 ho2 hg2; have HK2 := Aside0.mk ho2; have HB2 := Aside0.mk (HB.out.grown hg2 HB.out.size (fun j hj => by cases hj)); have HO2 := Aside0.mk (own_K_below HO.out HB2.out); have HL2 : Aside0 (w.heap.size < w2.heap.size) := ⟨(World.ownsRow.lt ho2 _ rfl).2⟩; clear ho2 hg2)
      | (at_range; refine wpList_range_own _ rfl _ 83 rfl 9 9 keyedS Try.underlying83 _ b n _ rfl HO2.out ?_; intro w0 hrg0 hg0 hs0; have HRG := Aside0.mk hrg0; have HG0 := Aside0.mk hg0; have HS0 : Aside0 (w2.heap.size < w0.heap.size) := ⟨by omega⟩; clear hrg0 hg0 hs0))
    go_frame
    generalize hr : w2.heap.size = r at *
    clear hr
    go_loopw [3] (fun v3 wr => ∃ (left : Lit → Bool) (cnt : Nat) (ks : List (List UInt8)), Aside0 (wr.ranges Try.prog 9 (plainElem Try.prog 9) b r n D left cnt) ∧ Aside0 (ks.length + cnt ≤ Maps.size D) ∧ Aside0 (Kd.R Kd.string 9 wr w.heap.size (fun k => k ≠ r) v3 (ks.map byB)) ∧ Aside0 (r < wr.heap.size) ∧ Aside0 (Collected D left ks) ∧ Aside0 (Below w.heap.size w wr)) (fun _ wr => wr.rangeLeft b r)
    case atStart => exact ⟨_, _, [], HRG, ⟨by simp⟩, ⟨R_made Kd.string (World.ownsRow.kept HK2.out HG0.out (.inr (by simp [Value.ownBlock]))) (by have := HL2.out; omega)⟩, HS0, ⟨Collected.start D⟩, ⟨HB2.out.grown HG0.out HB2.out.size (fun j hj => by cases hj)⟩⟩
    case round =>
      obtain ⟨left, cnt, ks, HR, HCN, HN, HS, HC, HB⟩ := hrel
      go_wp2_with (at_next; refine wpList_next_ranges _ rfl _ rfl 9 keyedS (plainElem Try.prog 9) encStr Value.string (fun key kl hk => by obtain ⟨x, hx, _⟩ := Maps.keyOf_str Try.underlying9 hk; exact ⟨x, hx⟩) (fun v y hv => by obtain ⟨c, rfl, _⟩ := plainElem_string_inv Try.underlying9 hv; exact ⟨c, rfl⟩) b r n _ _ _ rfl HR.out ?_ ?_)
      · intro hc0 hl0
        have HL := Aside0.mk hl0
        clear hc0 hl0
        have HP := Aside0.mk (HC.out.perm HO.out keyedS Try.underlying9 HL.out)
        have hl : ks.length ≤ 1000000000 := by rw [permK_len HP.out HO.out]; exact hsz
        have HLE : Aside0 (∀ s ∈ srt ks, s.size ≤ maxLen) := ⟨fun s hs => by
          have := strKeys_le HO.out Try.underlying9 _ (HP.out.mem_iff.1 (srt_mem hs))
          rwa [Array.length_toList] at this⟩
        go_wp2_with (go_at_call 84; refine (sort_calls u3 ks w.heap.size _ (Kd.R_mono HN.out (fun _ _ => trivial)) (by omega)).mono ?_; rintro e w4 ⟨rfl, hr, hg⟩; have HB4 := Aside0.mk (HB.out.grown hg HB.out.size (fun j hj => Kd.R_base HN.out _ hj)); obtain ⟨A, c, e3, hc3, hC⟩ := Kd.R_reads hr; subst e3; have HNC := Aside0.mk hC; clear hr hg hC)
        have hll : ((srt ks).length : Int) ≤ 1000000000 := by rw [srt_len]; omega
        generalize hns : srt ks = ns at *
        have HX := Aside0.mk (Drawn0.refl w4)
        go_wp2_with (go_at_call 94; refine (model_hashNew.calls 14695981039346656037 _ rfl).mono ?_; rintro e w5 ⟨rfl, hd⟩; have HY := Aside0.mk (drawn_trans HX.out hd); clear HX hd; have HX := HY; clear HY)
        go_loopw [5, 29] (fun v5 v29 wx => ∃ x : Int, 0 ≤ x ∧ x ≤ (ns.length : Int) ∧ v29 = .int .i64 x ∧ v5 = .int .u64 ((ns.take x.toNat).foldl (sumP D) 14695981039346656037) ∧ Aside0 (Drawn0 w4 wx)) (fun _ v29 _ => ((ns.length : Int) - intOf v29).toNat)
        case atStart => exact ⟨0, by omega, by omega, rfl, rfl, HX⟩
        case round =>
          obtain ⟨x, hx, hxl, rfl, rfl, HX⟩ := hrel
          by_cases hlt : x < (ns.length : Int)
          · obtain ⟨ad, e1, hx0⟩ := Kd.at_string (Kd.C_below HNC.out HX.out.below) x hx hlt
            cases e1
            have hmt := rd_memS ns x hx hlt
            have HOW := Aside0.mk (own_K_below HO.out (HB4.out.trans (HX.out.below.mono HB4.out.size)))
            generalize rdOf ByteArray.empty ns x = s at *
            have hss := HLE.out s hmt.1
            have hst := Aside0.mk hmt.2
            have HKY : Aside0 (keyOf Try.prog 9 (.string s) = some (.string s.data.toList)) := ⟨WideMaps.keyOf_string_mk Try.underlying9 hss⟩
            have HS1 : Aside0 (s.size ≤ 9223372036854775807) := ⟨by unfold maxLen at hss; omega⟩
            have hp := eq_true hx
            have hq := eq_true hlt
            clear hmt hss
            generalize hh0 : (ns.take x.toNat).foldl (sumP D) 14695981039346656037 = h0 at *
            have HH0 := Aside0.mk hh0
            clear hh0
            have HZ0 := Aside0.mk (Drawn0.refl wr)
            go_wp2_with (first | (go_at_call 96; refine (model_hashAddByte.calls _ _ _ _ (hashAddByte_is _ _)).mono ?_; rintro e w5 ⟨rfl, hd⟩; have HY := Aside0.mk (drawn_trans HZ0.out hd); clear HZ0 hd; have HZ0 := HY; clear HY) | (go_at_call 95; refine (hashAddP_calls _ _ _ (by first | exact HS1.out | exact HSL.out)).mono ?_; rintro e w4 ⟨rfl, hd⟩; have HY := Aside0.mk (drawn_trans HZ0.out hd); clear HZ0 hd; have HZ0 := HY; clear HY) | (at_lookup; refine lookup_str _ rfl _ _ 83 rfl 9 9 keyedS Try.underlying83 Try.underlying9 (zeroStr _) b n D rfl (own_K_below HOW.out HZ0.out.below) _ s rfl HKY.out ?_; intro s2 hs2 hsl2; have HSV := Aside0.mk hs2; have HSL : Aside0 (s2.size ≤ 9223372036854775807) := ⟨by unfold maxLen at hsl2; omega⟩; clear hs2 hsl2))
            go_roundw
            case rel => exact ⟨x + 1, by omega, by omega, by go_simp, by rw [hst.out, List.foldl_append, HH0.out, HSV.out]; rfl, ⟨drawn_trans HX.out HZ0.out⟩⟩
            case measure => simp [intOf]; omega
          · have hxe : x = (ns.length : Int) := by omega
            subst hxe
            rw [Int.toNat_natCast, List.take_length]
            go_wp2
            go_ret
            exact ⟨ks, by rw [hns]; rfl, HP.out, HB4.out.trans (HX.out.below.mono HB4.out.size)⟩
      · intro x c kl yd yp w3 cnt2 hkey hlk hv hat hrg2 hlt hg2 hs2 hen
        obtain ⟨x', ex, rfl, hxl⟩ := Maps.keyOf_str Try.underlying9 hkey
        obtain rfl : x = x' := encStr_inj ex
        have HC2 := Aside0.mk (HC.out.step hlk hat)
        have HR2 := Aside0.mk hrg2
        have HN2 := Aside0.mk (Kd.R_grown HN.out hg2 (fun k hk e => hk (by injection e)))
        have HB3 := Aside0.mk (HB.out.grown hg2 HB.out.size (fun j hj => by cases hj; exact Nat.le_of_lt HL2.out))
        have HS2 : Aside0 (r < w3.heap.size) := ⟨by rw [hs2]; exact HS.out⟩
        have HF : Aside0 (∀ k, w3.heap.size ≤ k → k ≠ r) := ⟨fun k hk => by have := HS2.out; omega⟩
        have HLT := Aside0.mk hlt
        have HCN2 : Aside0 (ks.length + 1 + cnt2 ≤ Maps.size D) := ⟨by have := HCN.out; omega⟩
        have hkl : ks.length ≤ 1000000000 := by have := HCN2.out; omega
        clear hkey hlk hv hat hrg2 hlt hg2 hs2 ex hxl
        go_wp2_with (at_builtin; refine Kd.R_append Kd.string (w0 := w) w.heap.size rfl (.tmp 20) (.tmp 22) 38 9 (.string ⟨#[]⟩) 16 rfl Try.underlying38 infoStr rfl (by decide) (by omega) u3 (ks.map byB) (byB x) [.string (byB x)] (fun k => k ≠ r) (fun _ => False) rfl (by first | (go_simp; done) | (go_simp; rfl)) rfl (fun _ hk => hk.elim) HF.out HN2.out HB3.out ?aS ?aL ?_; (case aS => exact HB3.out.size); (case aL => rw [List.length_map]; omega); intro v1 w4 ho hb hg4 hat4; have HO4 := Aside0.mk ho; have HB4 := Aside0.mk hb; have HG4 := Aside0.mk hg4; clear ho hb hg4 hat4)
        have HR4 := Aside0.mk (World.ranges.kept HR2.out HG4.out (fun e => by have := Kd.R_base HN2.out _ e.symm; have := HBL.out; omega) (fun e => HN2.out.1 _ e.symm rfl))
        go_roundw
        case rel => exact ⟨_, cnt2, ks ++ [x], HR4, ⟨by rw [List.length_append]; exact HCN2.out⟩, by simpa using HO4, ⟨Nat.lt_of_lt_of_le HS2.out HG4.out.size⟩, HC2, HB4⟩
        case measure => rw [HR4.out.left_eq, HR.out.left_eq]; exact HLT.out
end Go.Proofs.Ytikhlolhodgegaa.Q
namespace Go.Proofs.Ytikhlolhodgegaa.Q
open Go.RowKit Go.Proofs.YtikhlolhodgegaaW.PrintWords Go.Proofs.YtikhlolhodgegaaW.PrintLast Go.Proofs.YtikhlolhodgegaaW.PrintMore
open Go.Maps (Keyed string_keyed)
open Go.WideElems (Fit)
attribute [local go_sem] max2_int min2_int max_two min_two max_three min_three max_four min_four
def stepP (h : Int) (p : S26) : Int := fnvB (fnvS (fnvB (fnvS h p.f0) 255) p.f1) 255
def printV (l : List S26) : Int := l.foldl stepP 14695981039346656037
theorem sum_print (D : DataW Unit) (ns : List ByteArray) : sumL D ns = printV (ns.map (pairOf D)) := by
  unfold sumL printV
  rw [List.foldl_map]
  rfl
theorem sum_is (l : List S26) (ks : List (List UInt8)) (h : ks.Perm (strKeys (mset l))) : sumL (mset l) (srt ks) = printV ((setGo (l.map conv) []).map unconv) := by
  rw [sum_print, sortedSet_is l ks h]
def impl_SetPrint.f (l0 : List (S26)) : Option (Int) := if l0.length ≤ 300000000 ∧ shortPairs l0 then some (printV ((setGo (l0.map conv) []).map unconv)) else none
set_option maxRecDepth 100000 in
set_option maxHeartbeats 400000 in
theorem impl_SetPrint.calls (A0 : Option Addr) (c0 : Nat) (l0 : List (S26)) (r : Int) (w : World) (hr0 : Kd.C k26 w A0 l0.length l0) (hc0 : l0.length ≤ c0) (h : impl_SetPrint.f l0 = some r) :
    Calls Try.prog 48 #[.slice A0 l0.length c0] w fun e w' => e = .returned (.int .u64 r) ∧ Below w.heap.size w w' := by
  unfold impl_SetPrint.f at h
  split at h
  case isFalse => cases h
  rename_i hh
  obtain ⟨hlen, hs⟩ := hh
  obtain rfl := Option.some.inj h
  clear h
  go_enter Try.func48, Try.ntmps48
  go_wp2_with fail
  refine (labelSet_calls _ _ _ _ hr0 hc0 (by omega) hs).mono ?_
  rintro e w1 ⟨b, rfl, hbb, ho, hb1⟩
  have HO := Aside0.mk ho
  have HB := Aside0.mk hb1
  clear ho hb1 hbb hr0
  go_wp2_with fail
  go_enter Try.func78, Try.ntmps78
  go_wp2_with fail
  refine (print_calls _ _ _ _ HO.out (by have := size_mset l0; omega)).mono ?_
  rintro e w2 ⟨ks, rfl, hp, hb2⟩
  have HB2 := Aside0.mk (below_step HB.out hb2)
  have HP := Aside0.mk (sum_is l0 ks hp)
  clear hp hb2
  go_wp2
  go_ret
  exact ⟨by rw [← HP.out]; rfl, HB2.out⟩
set_option maxRecDepth 100000 in
set_option maxHeartbeats 800000 in
theorem sigloop (A0 : Option Addr) (c0 : Nat) (l0 : List S26) (w : World) (hr0 : Kd.C k26 w A0 l0.length l0) (_hc0 : l0.length ≤ c0) (hlen : l0.length ≤ 300000000) (hs : shortPairs l0) :
    Calls Try.prog 50 #[.slice A0 l0.length c0] w fun e w' => e = .returned (.int .u64 (printV ((setGo (l0.map conv) []).map unconv))) ∧ Below w.heap.size w w' := by
  have hu26 := Try.underlying26
  have hmm := @run_makeMap Try.prog
  have HR0 := Aside0.mk hr0
  have HS := Aside0.mk hs
  clear hr0 hs
  have HB := Aside0.mk (Below.refl w.heap.size w)
  go_enter Try.func50, Try.ntmps50
  go_wp2
  go_loopw [9] (fun v9 w' => ∃ x : Int, 0 ≤ x ∧ x ≤ (l0.length : Int) ∧ v9 = .int .i64 x ∧ Aside0 (OwnsKv w' w.heap.size x.toNat (mset (l0.take x.toNat))) ∧ Aside0 (Below w.heap.size w w')) (fun v9 _ => ((l0.length : Int) - intOf v9).toNat)
  case atStart => exact ⟨0, by omega, by omega, rfl, ⟨World.ownsMap_made _ _ _ _⟩, ⟨below_alloc HB.out _⟩⟩
  case round =>
    obtain ⟨x, hx, hxl, rfl, HO, HB⟩ := hrel
    by_cases hlt : x < (l0.length : Int)
    · obtain ⟨ad, e1, hx0, hx1⟩ := at_T26 HR0.out x hx hlt
      cases e1
      replace hx0 := (HB.out.cell (World.block_lt_of_cell? w _ hx0)).trans hx0
      replace hx1 := (HB.out.cell (World.block_lt_of_cell? w _ hx1)).trans hx1
      have hp := eq_true hx
      have hq := eq_true hlt
      have hst := take_step26 l0 x hx hlt
      generalize rd_T26 l0 x = p at *
      have hsp := HS.out p hst.2
      have hst := Aside0.mk hst.1
      have HK : Aside0 (keyOf Try.prog 9 (.string p.f0) = some (.string p.f0.data.toList)) := ⟨WideMaps.keyOf_string_mk Try.underlying9 (by unfold maxLen; omega)⟩
      have HV : Aside0 (plainElem (H := Unit) Try.prog 9 (.string p.f1) = some (.lit (.string p.f1.data.toList), [])) := ⟨plainElem_string Try.underlying9 (by unfold maxLen; omega)⟩
      clear hsp
      go_wp2_with (at_mapUpdate; refine wpList_mapUpdate_own _ rfl _ _ _ 83 rfl 9 9 keyedS Try.underlying83 (plainElem Try.prog 9) w.heap.size x.toNat (mset (l0.take x.toNat)) rfl (World.ownsMap.alloc HO.out _) (by unfold maxLen; omega) _ _ _ rfl rfl HK.out _ [] HV.out ?_; intro w1 hown1 hgrow1; have HO2 := Aside0.mk hown1; have HB2 := Aside0.mk (Below.grown (below_alloc HB.out _) hgrow1 (below_alloc HB.out _).size (fun j hj => by cases hj; exact Nat.le_refl _)); clear hown1 hgrow1)
      go_roundw
      case rel => exact ⟨x + 1, by omega, by omega, rfl, ⟨by rw [hst.out, mset_snoc]; have e : (x + 1).toNat = x.toNat + 1 := by omega
                                                             rw [e]; exact HO2.out⟩, HB2⟩
      case measure => simp [intOf]; omega
    · have hxe : x = (l0.length : Int) := by omega
      subst hxe
      have HO := HO.out
      simp only [Int.toNat_natCast, List.take_length] at HO
      have HO := Aside0.mk HO
      go_wp2_with fail
      refine (sign_calls _ _ _ _ HO.out (by have := size_mset l0; omega)).mono ?_
      rintro e w2 ⟨ks, rfl, hp, hb2⟩
      have HB2 := Aside0.mk (HB.out.trans (hb2.mono HB.out.size))
      have HP := Aside0.mk (sum_is l0 ks hp)
      clear hp hb2
      go_wp2
      go_ret
      exact ⟨by rw [← HP.out]; rfl, HB2.out⟩
def impl_Signature.f (l0 : List (S26)) : Option (Int) := if l0.length ≤ 300000000 ∧ shortPairs l0 then some (printV ((setGo (l0.map conv) []).map unconv)) else none
theorem impl_Signature.calls (A0 : Option Addr) (c0 : Nat) (l0 : List (S26)) (r : Int) (w : World) (hr0 : Kd.C k26 w A0 l0.length l0) (hc0 : l0.length ≤ c0) (h : impl_Signature.f l0 = some r) :
    Calls Try.prog 50 #[.slice A0 l0.length c0] w fun e w' => e = .returned (.int .u64 r) ∧ Below w.heap.size w w' := by
  unfold impl_Signature.f at h
  split at h
  case isFalse => cases h
  rename_i hh
  obtain rfl := Option.some.inj h
  exact sigloop A0 c0 l0 w hr0 hc0 hh.1 hh.2
end Go.Proofs.Ytikhlolhodgegaa.Q
