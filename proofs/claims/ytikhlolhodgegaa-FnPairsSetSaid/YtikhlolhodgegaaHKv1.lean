/- Sorting what a row of strings of the call's own holds from a place on. No condition beyond the length named. A set of pairs that the program makes as a map of strings: what impl.kv returns. No condition beyond the lengths named. The labels of a set as the template's SortedPairs hands them out. No condition beyond the size named. What the template's SortedPairs hands out, in the documentation's words. No condition. The labels of a set as they are handed out: what impl.SortedPairs returns. No condition beyond the lengths named. -/
import Derived.Test.YtikhlolhodgegaaHSet2
import Derived.Test.YtikhlolhodgegaaHSet1
import Derived.Test.YtikhlolhodgegaaQimplplain
namespace Go.Proofs.Ytikhlolhodgegaa.Q
open Go.RowKit Go.Sort Go.Proofs.YtikhlolhodgegaaW.PrintWords Go.Proofs.YtikhlolhodgegaaW.PrintLast Go.Proofs.YtikhlolhodgegaaW.PrintMore
open Go.Proofs (encStr)
theorem heap_sortedAt {w : World} {g n off : Nat} {os : Array Obj} {cur : Array Value} {e : TypeId} {fr : Nat × Nat} (d : Array (List UInt8)) (hb : w.heap[g]? = some (.cells cur e fr)) :
    (grow (putRow encStr (Sort.ahead w n) g off d) os).heap[g]? = some (.cells (putCells encStr off d cur) e fr) := by
  have hg : g < w.heap.size := (Array.getElem?_eq_some_iff.1 hb).1
  rw [heap_grow_old _ _ (by simpa using hg)]
  simp [putRow, mapBlock, Sort.ahead, Array.getElem?_modify, hb, onCells]
theorem grownBy_sortedAt {w : World} {g n off : Nat} {os : Array Obj} (d : Array (List UInt8)) : w.grownBy (grow (putRow encStr (Sort.ahead w n) g off d) os) (some g) := by
  refine ⟨rfl, rfl, rfl, by simp, fun k hk hne => ?_⟩
  rw [heap_grow_old _ _ (by simpa using hk)]
  have : g ≠ k := fun e => hne (by rw [e])
  simp [putRow, mapBlock, Sort.ahead, Array.getElem?_modify, this]
theorem take_putCellsAt (cur : Array Value) (pre : List Value) (ts : List (List UInt8)) (h : pre.length + ts.length ≤ cur.size) (hp : cur.toList.take pre.length = pre) :
    (putCells encStr pre.length ts.toArray cur).toList.take (pre.length + ts.length) = pre ++ ts.map encStr := by
  apply List.ext_getElem?
  intro j
  by_cases hj : j < pre.length + ts.length
  · rw [List.getElem?_take_of_lt hj, Array.getElem?_toList]
    by_cases hj2 : j < pre.length
    · rw [List.getElem?_append_left hj2]
      have h1 : (cur.toList.take pre.length)[j]? = pre[j]? := by rw [hp]
      rw [List.getElem?_take_of_lt hj2, Array.getElem?_toList] at h1
      simp [putCells, show ¬ pre.length ≤ j by omega, h1]
    · rw [List.getElem?_append_right (by omega)]
      have e1 : j - pre.length < ts.length := by omega
      have e2 : j < cur.size := by omega
      simp [putCells, show pre.length ≤ j by omega, hj, e1, e2]
  · rw [List.getElem?_take_eq_none (by omega), List.getElem?_eq_none (by simp; omega)]
theorem holds_from {w : World} {g off : Nat} {cur : Array Value} {e : TypeId} {ss : List (List UInt8)} {pre : List Value} (hb : w.heap[g]? = some (.cells cur e (0, 0))) (ht : cur.toList.take (pre.length + ss.length) = pre ++ ss.map encStr) (ho : off = pre.length) : Holds encStr w g off ss.toArray := by
  subst ho
  intro j hj
  have hj' : j < ss.length := by simpa using hj
  refine ⟨?_, by simp [World.frozen?, hb]⟩
  have h1 : (cur.toList.take (pre.length + ss.length))[pre.length + j]? = (pre ++ ss.map encStr)[pre.length + j]? := by rw [ht]
  rw [List.getElem?_take_of_lt (by omega), List.getElem?_append_right (by omega)] at h1
  simp only [World.cell?, hb]
  simp only [Option.isSome_none, Bool.false_eq_true, if_false]
  rw [← Array.getElem?_toList, h1]
  simp [hj']
theorem sort_from_calls (A : Option Addr) (c : Nat) (ss : List (List UInt8)) (l : Nat) (hl : l ≤ ss.length) (base : Nat) (w : World) (hR : Kd.R Kd.string 9 w base (fun _ => True) (.slice A ss.length c) (ss.map byB)) (hn : ss.length ≤ 10000000000) :
    Calls Try.prog 84 #[.slice (if c = l then A else A.map (·.add (l * 1))) (ss.length - l) (c - l)] w fun e w' => e = .returned (.tuple #[]) ∧ Kd.R Kd.string 9 w' base (fun _ => True) (.slice A ss.length c) ((ss.take l).map byB ++ srt (ss.drop l)) ∧ w.grownBy w' (Value.slice A ss.length c).ownBlock := by
  by_cases hz : ss.length = l
  · rw [hz, Nat.sub_self]
    refine (Try.sort_Strings_none _ _ w).mono ?_
    rintro e w' ⟨rfl, rfl⟩
    have e0 : srt [] = [] := by simp [srt, srtL]
    refine ⟨rfl, ?_, World.grownBy.refl _ _⟩
    rw [← hz, List.take_length, List.drop_length, e0, List.append_nil]
    exact hR
  · have ho := Kd.own_of_R hR
    rw [encs_byB, List.length_map] at ho
    rcases ho.2 with ⟨h0, hn0⟩ | ⟨g, cap, cur, hv, hbase, hb, h1, h2, h3, h4⟩
    · omega
    · injection hv with hv1 hv2 hv3
      subst hv1
      subst hv3
      have hc : ¬ c = l := by omega
      rw [if_neg hc]
      have hpl : ((ss.take l).map encStr).length = l := by simp; omega
      have hdl : (ss.drop l).length = ss.length - l := List.length_drop
      have hsp : ss.map encStr = (ss.take l).map encStr ++ (ss.drop l).map encStr := by rw [← List.map_append, List.take_append_drop]
      have h4' : cur.toList.take (((ss.take l).map encStr).length + (ss.drop l).length) = (ss.take l).map encStr ++ (ss.drop l).map encStr := by
        rw [hpl, hdl, ← hsp, ← h4]
        congr 1
        omega
      have hH : Holds encStr w g l (ss.drop l).toArray := holds_from hb h4' hpl.symm
      have hgl : g < w.heap.size := (Array.getElem?_eq_some_iff.1 hb).1
      have hcall := Try.sort_Strings g l (c - l) (ss.drop l) w hH hgl (by omega)
      rw [hdl] at hcall
      have ea : (Option.map (fun x : Addr => x.add (l * 1)) (some (⟨g, 0, none⟩ : Addr))) = some ⟨g, l, none⟩ := by simp [Addr.add]; omega
      rw [ea]
      refine hcall.mono ?_
      rintro e w' ⟨rfl, n, os, rfl⟩
      have hlen : (srtL (ss.drop l)).length = ss.length - l := by simp [srtL]
      refine ⟨rfl, ?_, grownBy_sortedAt _⟩
      have htp : cur.toList.take ((ss.take l).map encStr).length = (ss.take l).map encStr := by
        have := congrArg (List.take ((ss.take l).map encStr).length) h4'
        rw [List.take_take, List.take_left, Nat.min_eq_left (by omega)] at this
        exact this
      have htk := take_putCellsAt cur ((ss.take l).map encStr) (srtL (ss.drop l)) (by rw [hpl, hlen, h3]; omega) htp
      rw [hpl, hlen] at htk
      have hxs : encs Value.string ((ss.take l).map byB ++ srt (ss.drop l)) = (ss.take l).map encStr ++ (srtL (ss.drop l)).map encStr := by
        unfold srt
        rw [← List.map_append, encs_byB, List.map_append]
      have hxl : ((ss.take l).map byB ++ srt (ss.drop l)).length = ss.length := by simp [srt, srtL]; omega
      refine Kd.R_of_own ?_ (fun _ _ => trivial)
      rw [hxs, hxl]
      refine ⟨by simp [srtL]; omega, .inr ⟨g, c, _, rfl, hbase, heap_sortedAt _ hb, h1, h2, by simp [putCells, h3], ?_⟩⟩
      rw [← htk]
      congr 1
      omega
theorem sort_from_v (v : Value) (A : Option Addr) (c : Nat) (ss : List (List UInt8)) (l : Nat) (hv : v = .slice (if c = l then A else A.map (·.add (l * 1))) (ss.length - l) (c - l)) (hl : l ≤ ss.length) (base : Nat) (w : World) (hR : Kd.R Kd.string 9 w base (fun _ => True) (.slice A ss.length c) (ss.map byB)) (hn : ss.length ≤ 10000000000) :
    Calls Try.prog 84 #[v] w fun e w' => e = .returned (.tuple #[]) ∧ Kd.R Kd.string 9 w' base (fun _ => True) (.slice A ss.length c) ((ss.take l).map byB ++ srt (ss.drop l)) ∧ w.grownBy w' (Value.slice A ss.length c).ownBlock := by
  subst hv
  exact sort_from_calls A c ss l hl base w hR hn
end Go.Proofs.Ytikhlolhodgegaa.Q
namespace Go.Proofs.Ytikhlolhodgegaa.Q
open Go.RowKit Go.Proofs.YtikhlolhodgegaaW.PrintWords Go.Proofs.YtikhlolhodgegaaW.PrintLast Go.Proofs.YtikhlolhodgegaaW.PrintMore
open Go.Maps (Keyed string_keyed)
open Go.WideElems (Fit)
attribute [local go_sem] max2_int min2_int max_two min_two max_three min_three max_four min_four
theorem keyedS : Keyed Try.prog 9 := string_keyed Try.underlying9
/-- Block b of w is a map of strings that reads as D. -/
def OwnsKv (w : World) (b n : Nat) (D : DataW Unit) : Prop := w.ownsMap Try.prog 9 (plainElem Try.prog 9) b n D
theorem own_K_below {w w1 : World} {b n : Nat} {D : DataW Unit} (h : OwnsKv w b n D) (hb : Below w.heap.size w w1) : OwnsKv w1 b n D := h.kept (grown_of_below hb none) (by simp)
theorem zeroStr (w : World) : (zeroValue 9).run Try.prog w = .ok (.string ⟨#[]⟩) w := by kernel_rfl
set_option maxRecDepth 100000 in
set_option maxHeartbeats 800000 in
theorem kv_calls (A0 : Option Addr) (c0 : Nat) (l0 : List S26) (w : World) (hr0 : Kd.C k26 w A0 l0.length l0) (_hc0 : l0.length ≤ c0) (hlen : l0.length ≤ 10000000000) (hs : shortPairs l0) :
    Calls Try.prog 62 #[.slice A0 l0.length c0] w fun e w' => ∃ b, e = .returned (.map (some b)) ∧ w.heap.size ≤ b ∧ OwnsKv w' b l0.length (mset l0) ∧ Below w.heap.size w w' := by
  have hu26 := Try.underlying26
  have hmm := @run_makeMap Try.prog
  have HR0 := Aside0.mk hr0
  have HS := Aside0.mk hs
  clear hr0 hs
  have HB := Aside0.mk (Below.refl w.heap.size w)
  go_enter Try.func62, Try.ntmps62
  go_wp2
  go_loopw [9] (fun v9 w' => ∃ x : Int, 0 ≤ x ∧ x ≤ (l0.length : Int) ∧ v9 = .int .i64 x ∧ Aside0 (OwnsKv w' w.heap.size x.toNat (mset (l0.take x.toNat))) ∧ Aside0 (Below w.heap.size w w')) (fun v9 _ => ((l0.length : Int) - intOf v9).toNat)
  case atStart => exact ⟨0, by omega, by omega, rfl, ⟨World.ownsMap_made _ _ _ _⟩, ⟨below_alloc HB.out _⟩⟩
  case round =>
    obtain ⟨x, hx, hxl, rfl, HO, HB⟩ := hrel
    by_cases hlt : x < (l0.length : Int)
    · obtain ⟨ad, e1, hx0, hx1⟩ := at_T26 HR0.out x hx hlt
      cases e1
      replace hx0 := (HB.out.cell (World.block_lt_of_cell? w _ hx0)).trans hx0
      replace hx1 := (HB.out.cell (World.block_lt_of_cell? w _ hx1)).trans hx1
      have hp := eq_true hx
      have hq := eq_true hlt
      have hst := take_step26 l0 x hx hlt
      generalize rd_T26 l0 x = p at *
      have hsp := HS.out p hst.2
      have hst := Aside0.mk hst.1
      have HK : Aside0 (keyOf Try.prog 9 (.string p.f0) = some (.string p.f0.data.toList)) := ⟨WideMaps.keyOf_string_mk Try.underlying9 (by unfold maxLen; omega)⟩
      have HV : Aside0 (plainElem (H := Unit) Try.prog 9 (.string p.f1) = some (.lit (.string p.f1.data.toList), [])) := ⟨plainElem_string Try.underlying9 (by unfold maxLen; omega)⟩
      clear hsp
      go_wp2_with (at_mapUpdate; refine wpList_mapUpdate_own _ rfl _ _ _ 84 rfl 9 9 keyedS Try.underlying84 (plainElem Try.prog 9) w.heap.size x.toNat (mset (l0.take x.toNat)) rfl (World.ownsMap.alloc HO.out _) (by unfold maxLen; omega) _ _ _ rfl rfl HK.out _ [] HV.out ?_; intro w1 hown1 hgrow1; have HO2 := Aside0.mk hown1; have HB2 := Aside0.mk (Below.grown (below_alloc HB.out _) hgrow1 (below_alloc HB.out _).size (fun j hj => by cases hj; exact Nat.le_refl _)); clear hown1 hgrow1)
      go_roundw
      case rel => exact ⟨x + 1, by omega, by omega, rfl, ⟨by rw [hst.out, mset_snoc]; have e : (x + 1).toNat = x.toNat + 1 := by omega
                                                             rw [e]; exact HO2.out⟩, HB2⟩
      case measure => simp [intOf]; omega
    · have hxe : x = (l0.length : Int) := by omega
      subst hxe
      have HO := HO.out
      simp only [Int.toNat_natCast, List.take_length] at HO
      have HO := Aside0.mk HO
      go_wp2
      go_ret
      exact ⟨w.heap.size, rfl, Nat.le_refl _, HO.out, HB.out⟩
end Go.Proofs.Ytikhlolhodgegaa.Q
namespace Go.Proofs.Ytikhlolhodgegaa.Q
open Go.RowKit Go.Proofs.YtikhlolhodgegaaW.PrintWords Go.Proofs.YtikhlolhodgegaaW.PrintLast Go.Proofs.YtikhlolhodgegaaW.PrintMore
open Go.Maps (Keyed string_keyed)
open Go.Proofs (encStr)
attribute [local go_sem] max2_int min2_int max_two min_two max_three min_three max_four min_four
def lAN : List UInt8 := [97, 108, 101, 114, 116, 110, 97, 109, 101]
/-- The names as the loop keeps them: alertname ahead, if it is one of them, and where to sort from. -/
def KvHead (s : Nat) (ks : List (List UInt8)) : Prop := (s = 0 ∧ lAN ∉ ks) ∨ (s = 1 ∧ ∃ r, ks = lAN :: r ∧ lAN ∉ r)
theorem KvHead.le {s : Nat} {ks : List (List UInt8)} (h : KvHead s ks) : s ≤ ks.length := by
  rcases h with ⟨rfl, _⟩ | ⟨rfl, r, rfl, _⟩
  · omega
  · simp
theorem KvHead.first {s : Nat} {ks : List (List UInt8)} (_h : KvHead s ks) (hn : lAN ∉ ks) : KvHead 1 (lAN :: ks) := .inr ⟨rfl, ks, rfl, hn⟩
theorem KvHead.next {s : Nat} {ks : List (List UInt8)} {x : List UInt8} (h : KvHead s ks) (hx : x ≠ lAN) : KvHead s (ks ++ [x]) := by
  rcases h with ⟨rfl, h⟩ | ⟨rfl, r, rfl, h⟩
  · exact .inl ⟨rfl, by simp [h, Ne.symm hx]⟩
  · exact .inr ⟨rfl, r ++ [x], rfl, by simp [h, Ne.symm hx]⟩
/-- A row's end from a place on, as a value that the walk does not lay open. -/
theorem slice_low {P : Program} (w : World) {ops : Array Oper} {rest : List Oper} {o : Oper} {a : Act} {Q : Exit → Act → World → Prop}
    (hg : o.guard = none) (s x : Operand) (t : TypeId) (hop : o.op = Op.slice t s (some x) none none) (ht : P.underlying t = some (.slice (P.elem t))) (hz : ∀ w, (sizeOf (P.elem t)).run P w = .ok 1 w)
    (A : Option Addr) (n c l : Nat) (hs : a.eval s = .slice A n c) (hx : a.eval x = .int .i64 (l : Int)) (hl : l ≤ n)
    (hK : ∀ v, v = Value.slice (if c = l then A else A.map (·.add (l * 1))) (n - l) (c - l) → wpList P ops Q rest (a.put o.dst v) w) :
    wpList P ops Q (o :: rest) a w := by
  refine wpList_plain hg fun K hK' => ?_
  have hrun := run_slice_l (P := P) (w := w) (t := t) (a := A) (len := n) (cap := c) ht .i64 (l : Int) (by omega) (by omega)
  unfold Oper.wp
  simp only [execOp, hop, hs, hx, Option.map_some, Option.map_none, Sem.run_bind, Result.andThen]
  rw [run_sliceAt_slice (h := ht), hrun, hz]
  simp only [Result.andThen, sliced, Int.toNat_natCast]
  exact hK' _ _ (hK _ rfl)
theorem R_boxS {w : World} {base : Nat} {ok : Nat → Prop} (x : List UInt8) (hb : base ≤ w.heap.size) (hok : ok w.heap.size) : Kd.R Kd.string 9 (w.alloc (.cells #[encStr x] 9)) base ok (.slice (some ⟨w.heap.size, 0, none⟩) 1 1) [byB x] := by
  refine Kd.R_of_own (World.ownsRow_lit (base := base) (e := 9) (size := 1) w #[encStr x] 1 hb (by simp [maxLen]) (by simp)) (fun k hk => ?_)
  have : w.heap.size = k := by simpa [Value.ownBlock] using hk
  subst this
  exact hok
def tpair (D : DataW Unit) (s : ByteArray) : S115 := ⟨s, valD D s⟩
theorem R_made {α : Type} (d : Kd α) {e : Nat} {w : World} {base g cap : Nat} {ok : Nat → Prop} (h : w.ownsRow base e d.sz (.slice (some ⟨g, 0, none⟩) 0 cap) 0 []) (hok : ok g) : d.R e w base ok (.slice (some ⟨g, 0, none⟩) 0 cap) [] := by
  refine ⟨fun k hk => ?_, [], h, Reps.none _ _⟩
  have : g = k := by simpa [Value.ownBlock] using hk
  subst this
  exact hok
theorem collected_perm {D : DataW Unit} {left : Lit → Bool} {ss ks : List (List UInt8)} (h : Collected D left ss) (p : ss.Perm ks) : Collected D left ks := ⟨p.nodup_iff.1 h.1, fun x => p.mem_iff.symm.trans (h.2 x)⟩
theorem permK_len {D : DataW Unit} {ks : List (List UInt8)} (h : ks.Perm (strKeys D)) {w : World} {b n : Nat} (ho : OwnsKv w b n D) : ks.length = Maps.size D := by
  rw [h.length_eq]
  obtain ⟨es, rfl, _⟩ := World.ownsMap.entries ho keyedS
  simp [strKeys, Maps.size_eq]
def kvL (s : Nat) (ks : List (List UInt8)) : List ByteArray := (ks.take s).map byB ++ srt (ks.drop s)
theorem infoTPk : (Try.prog.info? 115).map (fun i => (i.zero, i.size, i.bytes)) = some (some (.agg #[(.string ⟨#[]⟩), (.string ⟨#[]⟩)]), 2, 32) := by kernel_rfl
theorem kvL_len (s : Nat) (ks : List (List UInt8)) (h : s ≤ ks.length) : (kvL s ks).length = ks.length := by simp [kvL, srt_len]; omega
theorem kvL_mem {s : Nat} {ks : List (List UInt8)} {x : ByteArray} (h : x ∈ kvL s ks) : x.data.toList ∈ ks := by
  rcases List.mem_append.1 h with h | h
  · obtain ⟨y, hy, rfl⟩ := List.mem_map.1 h
    simpa [byB] using List.mem_of_mem_take hy
  · exact List.mem_of_mem_drop (srt_mem h)
set_option maxRecDepth 100000 in
set_option maxHeartbeats 1600000 in
theorem kvSorted_calls (b n : Nat) (D : DataW Unit) (w : World) (hown : OwnsKv w b n D) (hsz : Maps.size D ≤ 1000000000) :
    Calls Try.prog 63 #[.map (some b)] w fun e w' => ∃ v, e = .returned v ∧ ∃ (ks : List (List UInt8)), ks.Perm (strKeys D) ∧ ∃ s : Nat, KvHead s ks ∧ Kd.R k115 115 w' w.heap.size (fun _ => True) v ((kvL s ks).map (tpair D)) ∧ Below w.heap.size w w' := by
  have hbl := World.ownsMap.lt hown
  have HO := Aside0.mk hown
  have HBL := Aside0.mk hbl
  clear hown hbl
  obtain ⟨iP, hiP, hzP, hsP, hbP⟩ := info_parts infoTPk
  obtain ⟨iS, hiS, hzS, hsS, hbS⟩ := info_parts infoStr
  go_enter Try.func63, Try.ntmps63
  go_wp2_with (first
    | (at_len; refine wpList_len_own _ rfl _ 84 rfl 9 9 Try.underlying84 _ b n _ rfl HO.out ?_)
    | (at_make; refine wpList_make_own _ rfl _ _ 81 rfl w.heap.size 115 iP _ 2 Try.underlying81 hiP hzP hsP .i64 .i64 _ (Maps.size D) rfl rfl rfl (by rw [hbP]; omega) (by unfold maxLen; omega) (Nat.le_refl _) ?_; intro w1 ho1 hg1; have HP1 := Aside0.mk ho1; have HB1 := Aside0.mk ((Below.refl w.heap.size w).grown hg1 (Nat.le_refl _) (fun j hj => by cases hj)); have HO1 := Aside0.mk (own_K_below HO.out HB1.out); have HL1 : Aside0 (w.heap.size < w1.heap.size) := ⟨(World.ownsRow.lt ho1 _ rfl).2⟩; clear ho1 hg1)
    | (at_len; refine wpList_len_own _ rfl _ 84 rfl 9 9 Try.underlying84 _ b n _ rfl HO1.out ?_)
    | (at_make; refine wpList_make_own _ rfl _ _ 38 rfl w.heap.size 9 iS _ 1 Try.underlying38 hiS hzS hsS .i64 .i64 _ (Maps.size D) rfl rfl rfl (by rw [hbS]; omega) (by unfold maxLen; omega) HB1.out.size ?_; intro w2 ho2 hg2; have HK2 := Aside0.mk ho2; have HP2 := Aside0.mk (World.ownsRow.kept HP1.out hg2 (.inr (by simp [Value.ownBlock]))); have HB2 := Aside0.mk (HB1.out.grown hg2 HB1.out.size (fun j hj => by cases hj)); have HO2 := Aside0.mk (own_K_below HO.out HB2.out); have HL2 : Aside0 (w1.heap.size < w2.heap.size) := ⟨(World.ownsRow.lt ho2 _ rfl).2⟩; clear ho2 hg2)
    | (at_range; refine wpList_range_own _ rfl _ 84 rfl 9 9 keyedS Try.underlying84 _ b n _ rfl HO2.out ?_; intro w0 hrg0 hg0 hs0; have HRG := Aside0.mk hrg0; have HG0 := Aside0.mk hg0; have HS0 : Aside0 (w2.heap.size < w0.heap.size) := ⟨by omega⟩; clear hrg0 hg0 hs0))
  go_frame
  generalize hr : w2.heap.size = r at *
  have HWR : Aside0 (w.heap.size < r) := ⟨Nat.lt_trans HL1.out HL2.out⟩
  clear hr
  go_loopw [4, 5] (fun v4 v5 wr => ∃ (left : Lit → Bool) (cnt : Nat) (ks : List (List UInt8)) (s : Nat), v5 = .int .i64 (s : Int) ∧ Aside0 (KvHead s ks) ∧ Aside0 (wr.ranges Try.prog 9 (plainElem Try.prog 9) b r n D left cnt) ∧ Aside0 (ks.length + cnt ≤ Maps.size D) ∧ Aside0 (Kd.R Kd.string 9 wr w.heap.size (fun k => k ≠ r) v4 (ks.map byB)) ∧ Aside0 (Kd.R k115 115 wr w.heap.size (fun k => k ≠ r) (.slice (some ⟨w.heap.size, 0, none⟩) 0 (Maps.size D)) []) ∧ Aside0 (r < wr.heap.size) ∧ Aside0 (Collected D left ks) ∧ Aside0 (Below w.heap.size w wr)) (fun _ _ wr => wr.rangeLeft b r)
  case atStart => exact ⟨_, _, [], 0, rfl, ⟨.inl ⟨rfl, by simp⟩⟩, HRG, ⟨by simp⟩, ⟨R_made Kd.string (World.ownsRow.kept HK2.out HG0.out (.inr (by simp [Value.ownBlock]))) (by have := HL2.out; omega)⟩, ⟨R_made k115 (World.ownsRow.kept HP2.out HG0.out (.inr (by simp [Value.ownBlock]))) (by have := HWR.out; omega)⟩, HS0, ⟨Collected.start D⟩, ⟨HB2.out.grown HG0.out HB2.out.size (fun j hj => by cases hj)⟩⟩
  case round =>
    obtain ⟨left, cnt, ks, s, rfl, HH, HR, HCN, HN, HV, HS, HC, HB⟩ := hrel
    go_wp2_with (at_next; refine wpList_next_ranges _ rfl _ rfl 9 keyedS (plainElem Try.prog 9) encStr Value.string (fun key kl hk => by obtain ⟨x, hx, _⟩ := Maps.keyOf_str Try.underlying9 hk; exact ⟨x, hx⟩) (fun v y hv => by obtain ⟨c, rfl, _⟩ := plainElem_string_inv Try.underlying9 hv; exact ⟨c, rfl⟩) b r n _ _ _ rfl HR.out ?_ ?_)
    · intro hc0 hl0
      have HL := Aside0.mk hl0
      clear hc0 hl0
      have HP := Aside0.mk (HC.out.perm HO.out keyedS Try.underlying9 HL.out)
      have hl : ks.length ≤ 1000000000 := by rw [permK_len HP.out HO.out]; exact hsz
      have HN' := Aside0.mk (Kd.R_mono HN.out (fun _ _ => trivial) : Kd.R Kd.string 9 wr w.heap.size (fun _ => True) _ _)
      have HV' := Aside0.mk (Kd.R_mono HV.out (fun _ _ => trivial) : Kd.R k115 115 wr w.heap.size (fun _ => True) _ _)
      obtain ⟨A, c, e4, hc4, _⟩ := Kd.R_reads HN'.out
      rw [List.length_map] at e4 hc4
      subst e4
      have HLE : Aside0 (∀ s' ∈ kvL s ks, s'.size ≤ maxLen) := ⟨fun s' hs' => by
        have := strKeys_le HO.out Try.underlying9 _ (HP.out.mem_iff.1 (kvL_mem hs'))
        rwa [Array.length_toList] at this⟩
      go_wp2_with (first
        | ((with_reducible refine gate_dst (N := 33) rfl ?_); refine slice_low _ rfl _ _ _ rfl (by kernel_rfl) (fun _ => by kernel_rfl) A ks.length c s rfl rfl HH.out.le ?_; intro vs hvs; have HVS := Aside0.mk hvs; clear hvs)
        | (go_at_call 84; refine (sort_from_v vs A c ks s HVS.out HH.out.le w.heap.size _ HN'.out (by omega)).mono ?_; rintro e w4 ⟨rfl, hr4, hg4⟩; have HB4 := Aside0.mk (HB.out.grown hg4 HB.out.size (fun j hj => Kd.R_base HN'.out _ hj)); have HV4 := Aside0.mk (Kd.R_over' HV'.out (Kd.R_typed HN'.out) (by decide) hg4); have HK4 := Aside0.mk hr4; clear hr4 hg4))
      have hll : ((kvL s ks).length : Int) ≤ 1000000000 := by rw [kvL_len s ks HH.out.le]; omega
      have hkl : (kvL s ks).length = ks.length := kvL_len s ks HH.out.le
      have HK5 : Aside0 (Kd.R Kd.string 9 w4 w.heap.size (fun _ => True) (.slice A ks.length c) (kvL s ks)) := HK4
      generalize hns : kvL s ks = ns at *
      rw [← hkl] at *
      go_loopw [3, 37] (fun v3 v37 wx => ∃ x : Int, 0 ≤ x ∧ x ≤ (ns.length : Int) ∧ v37 = .int .i64 x ∧ Aside0 (Kd.R k115 115 wx w.heap.size (fun _ => True) v3 ((ns.take x.toNat).map (tpair D))) ∧ Aside0 (Kd.R Kd.string 9 wx w.heap.size (fun _ => True) (.slice A ns.length c) ns) ∧ Aside0 (Below w.heap.size w wx)) (fun _ v37 _ => ((ns.length : Int) - intOf v37).toNat)
      case atStart => exact ⟨0, by omega, by omega, rfl, ⟨by simpa using HV4.out⟩, HK5, HB4⟩
      case round =>
        obtain ⟨x, hx, hxl, rfl, HV, HK, HX⟩ := hrel
        by_cases hlt : x < (ns.length : Int)
        · obtain ⟨ad, e1, hx0⟩ := Kd.at_string (Kd.R_reads' HK.out).2.2 x hx hlt
          cases e1
          have hmt := rd_memS ns x hx hlt
          have HOW := Aside0.mk (own_K_below HO.out HX.out)
          generalize rdOf ByteArray.empty ns x = s2 at *
          have hss := HLE.out s2 hmt.1
          have hst := Aside0.mk hmt.2
          have HKY : Aside0 (keyOf Try.prog 9 (.string s2) = some (.string s2.data.toList)) := ⟨WideMaps.keyOf_string_mk Try.underlying9 hss⟩
          have hp := eq_true hx
          have hq := eq_true hlt
          clear hmt hss
          go_wp2_with (first | (at_lookup; refine lookup_str _ rfl _ _ 84 rfl 9 9 keyedS Try.underlying84 Try.underlying9 (zeroStr _) b n D rfl HOW.out _ s2 rfl HKY.out ?_; intro s3 hs3 hsl3; have HSV := Aside0.mk hs3; clear hs3 hsl3) | (at_builtin; refine Kd.R_append k115 (w0 := w) w.heap.size rfl (.tmp 41) (.tmp 47) 81 115 (.agg #[.string ⟨#[]⟩, .string ⟨#[]⟩]) 32 rfl Try.underlying81 infoTPk rfl (by decide) (by omega) u3 ((ns.take x.toNat).map (tpair D)) (⟨s2, s3⟩ : S115) [.string s2, .string s3] (fun _ => True) (fun _ => False) rfl (by first | (go_simp; done) | (go_simp; rfl)) (k115_mkM _ _ _ (⟨s2, s3⟩ : S115)) (fun _ hk => hk.elim) (fun _ _ => trivial) HV.out HX.out ?aS ?aL ?_; (case aS => exact HX.out.size); (case aL => rw [List.length_map, List.length_take]; omega); intro v1 w6 ho hb hg6 hat6; have HO6 := Aside0.mk ho; have HB6 := Aside0.mk hb; have HK6 := Aside0.mk (Kd.R_over' HK.out (Kd.R_typed HV.out) (by decide) hg6); clear ho hb hg6 hat6))
          go_roundw
          case rel => exact ⟨x + 1, by omega, by omega, by go_simp, ⟨by rw [hst.out, List.map_append]; have e : tpair D s2 = ⟨s2, s3⟩ := by rw [tpair, HSV.out]
                                                                        rw [List.map_cons, List.map_nil, e]; exact HO6.out⟩, HK6, HB6⟩
          case measure => simp [intOf]; omega
        · have hxe : x = (ns.length : Int) := by omega
          subst hxe
          have HV2 := HV.out
          rw [Int.toNat_natCast, List.take_length] at HV2
          have HV2 := Aside0.mk HV2
          go_wp2
          go_ret
          exact ⟨_, rfl, ks, HP.out, s, HH.out, by rw [hns]; exact HV2.out, HX.out⟩
    · intro x c kl yd yp w3 cnt2 hkey hlk hv hat hrg2 hlt hg2 hs2 hen
      obtain ⟨x', ex, rfl, hxl⟩ := Maps.keyOf_str Try.underlying9 hkey
      obtain rfl : x = x' := encStr_inj ex
      have HC2 := Aside0.mk (HC.out.step hlk hat)
      have HNM : Aside0 (x ∉ ks) := ⟨fun hm => by have := ((HC.out.2 x).1 hm).2; rw [hlk] at this; cases this⟩
      have HR2 := Aside0.mk hrg2
      have HN2 := Aside0.mk (Kd.R_grown HN.out hg2 (fun k hk e => hk (by injection e)))
      have HV2 := Aside0.mk (Kd.R_grown HV.out hg2 (fun k hk e => hk (by injection e)))
      have HB3 := Aside0.mk (HB.out.grown hg2 HB.out.size (fun j hj => by cases hj; exact Nat.le_of_lt HWR.out))
      have HS2 : Aside0 (r < w3.heap.size) := ⟨by rw [hs2]; exact HS.out⟩
      have HF : Aside0 (∀ k, w3.heap.size ≤ k → k ≠ r) := ⟨fun k hk => by have := HS2.out; omega⟩
      have HLT := Aside0.mk hlt
      have HCN2 : Aside0 (ks.length + 1 + cnt2 ≤ Maps.size D) := ⟨by have := HCN.out; omega⟩
      clear hkey hlk hv hat hrg2 hlt hg2 hs2 ex hxl
      obtain ⟨A, c4, e4, hc4, hC4⟩ := Kd.R_reads HN2.out
      rw [List.length_map] at e4 hc4
      subst e4
      have HC4 : Aside0 (Kd.C Kd.string w3 A ks.length (ks.map byB)) := ⟨by rw [List.length_map] at hC4; exact hC4⟩
      have hkl : ks.length ≤ 1000000000 := by have := HCN2.out; omega
      clear hC4
      cases h1 : (x == [97, 108, 101, 114, 116, 110, 97, 109, 101])
      · have HNE : Aside0 (x ≠ lAN) := ⟨by simpa [lAN] using h1⟩
        go_wp2_with (at_builtin; refine Kd.R_append Kd.string (w0 := w) w.heap.size rfl (.tmp 27) (.tmp 29) 38 9 (.string ⟨#[]⟩) 16 rfl Try.underlying38 infoStr rfl (by decide) (by omega) _ (ks.map byB) (byB x) [.string (byB x)] (fun k => k ≠ r) (fun _ => False) rfl (by first | (go_simp; done) | (go_simp; rfl)) rfl (fun _ hk => hk.elim) HF.out HN2.out HB3.out ?aS ?aL ?_; (case aS => exact HB3.out.size); (case aL => rw [List.length_map]; omega); intro v1 w4 ho hb hg4 hat4; have HO4 := Aside0.mk ho; have HB4 := Aside0.mk hb; have HG4 := Aside0.mk hg4; clear ho hb hg4 hat4)
        have HR4 := Aside0.mk (World.ranges.kept HR2.out HG4.out (fun e => by have := Kd.R_base HN2.out _ e.symm; have := HBL.out; omega) (fun e => HN2.out.1 _ e.symm rfl))
        have HV4 := Aside0.mk (Kd.R_over' HV2.out (Kd.R_typed HN2.out) (by decide) HG4.out)
        go_roundw
        case rel => exact ⟨_, cnt2, ks ++ [x], s, rfl, ⟨HH.out.next HNE.out⟩, HR4, ⟨by rw [List.length_append]; exact HCN2.out⟩, by simpa using HO4, HV4, ⟨Nat.lt_of_lt_of_le HS2.out HG4.out.size⟩, HC2, HB4⟩
        case measure => rw [HR4.out.left_eq, HR.out.left_eq]; exact HLT.out
      · have HEQ : Aside0 (x = lAN) := ⟨by simpa [lAN] using h1⟩
        go_wp2_with (at_builtin; go_loud (refine Kd.R_append_rows Kd.string (w0 := w) w.heap.size rfl (.tmp 24) (.tmp 25) 38 9 (.string ⟨#[]⟩) 16 rfl Try.underlying38 infoStr rfl (by decide) (by omega) (.slice (some ⟨w3.heap.size, 0, none⟩) 1 1) [byB x] (ks.map byB) _ _ _ (fun k => k ≠ r) (fun _ => False) rfl rfl ?aO ?aR (fun _ _ h => h) (fun _ h => h.elim) ?aF ?aB ?aS ?aL ?_); go_loud (case aO => exact R_boxS x HB3.out.size (HF.out _ (Nat.le_refl _))); go_loud (case aR => exact Kd.C_alloc HC4.out _); go_loud (case aF => exact fun k hk => HF.out k (by simp at hk; omega)); go_loud (case aB => exact below_alloc HB3.out _); go_loud (case aS => exact (below_alloc HB3.out _).size); go_loud (case aL => simp; omega); intro v1 w4 ho hb hg4 hat4; have HO4 := Aside0.mk ho; have HB4 := Aside0.mk hb; have HG4 := Aside0.mk hg4; clear ho hb hg4 hat4)
        have HGA := Aside0.mk (grown_of_below (below_alloc (Below.refl w3.heap.size w3) (.cells #[encStr x] 9)) none)
        have HR3 := Aside0.mk (World.ranges.kept HR2.out HGA.out (by simp) (by simp))
        have HR4 := Aside0.mk (World.ranges.kept HR3.out HG4.out (fun e => by have h1 := HBL.out; have h2 := HB3.out.size; have e2 : b = w3.heap.size := Option.some.inj e; omega) (fun e => by have e2 : r = w3.heap.size := Option.some.inj e; have := HS2.out; omega))
        have HV4 := Aside0.mk (Kd.R_over' (Kd.R_alloc HV2.out (.cells #[encStr x] 9)) (Kd.R_typed (R_boxS (ok := fun _ => True) x HB3.out.size trivial)) (by decide) HG4.out)
        have HM : Aside0 (lAN ∉ ks) := ⟨by have := HNM.out; rwa [HEQ.out] at this⟩
        go_roundw
        case rel => exact ⟨_, cnt2, x :: ks, 1, rfl, ⟨by rw [HEQ.out]; exact HH.out.first HM.out⟩, HR4, ⟨by rw [List.length_cons]; exact HCN2.out⟩, HO4, HV4, ⟨Nat.lt_of_lt_of_le HS2.out (Nat.le_trans HGA.out.size HG4.out.size)⟩, ⟨collected_perm HC2.out (by rw [← List.singleton_append]; exact List.perm_append_comm)⟩, HB4⟩
        case measure => rw [HR4.out.left_eq, HR.out.left_eq]; exact HLT.out
end Go.Proofs.Ytikhlolhodgegaa.Q
namespace Go.Proofs.Ytikhlolhodgegaa.Q
open Go.RowKit Go.Proofs.YtikhlolhodgegaaW.PrintWords Go.Proofs.YtikhlolhodgegaaW.PrintLast Go.Proofs.YtikhlolhodgegaaW.PrintMore
def isAN (q : S59) : Bool := nm q == lAN
def kvOrd (X : List S59) : List S59 := X.filter isAN ++ X.filter (fun q => !isAN q)
def kvO (l : List S26) : List S26 := (kvOrd (setGo (l.map conv) [])).map unconv
def toP (p : S115) : S26 := ⟨p.f0, p.f1⟩
theorem filter_one {X : List S59} (h : SortedP X) (hm : ∃ q ∈ X, nm q = lAN) : ∃ a, X.filter isAN = [a] ∧ a ∈ X ∧ nm a = lAN := by
  have hF : SortedP (X.filter isAN) := List.Pairwise.filter _ h
  have hall : ∀ q ∈ X.filter isAN, q ∈ X ∧ nm q = lAN := fun q hq => by
    have := List.mem_filter.1 hq
    exact ⟨this.1, by simpa [isAN] using this.2⟩
  obtain ⟨q, hq, hn⟩ := hm
  have hqm : q ∈ X.filter isAN := List.mem_filter.2 ⟨hq, by simp [isAN, hn]⟩
  cases hc : X.filter isAN with
  | nil => rw [hc] at hqm; cases hqm
  | cons a F =>
    rw [hc] at hF hall
    cases F with
    | nil => exact ⟨a, rfl, hall a (by simp)⟩
    | cons b F =>
      have h1 := (List.pairwise_cons.1 hF).1 b (by simp)
      rw [(hall a (by simp)).2, (hall b (by simp)).2] at h1
      exact absurd h1 (List.lt_irrefl _)
theorem pair_val (l : List S26) (q : S59) (hq : q ∈ setGo (l.map conv) []) : pairOf (mset l) (byB (nm q)) = unconv q := by
  unfold pairOf unconv
  rw [byB_nm, val_is l q hq]
theorem kvOrd_is (l : List S26) (ks : List (List UInt8)) (h : ks.Perm (strKeys (mset l))) (s : Nat) (hh : KvHead s ks) : (kvL s ks).map (pairOf (mset l)) = kvO l := by
  unfold kvO kvOrd
  have hS := setGo_sorted (l.map conv)
  have hk : ∀ k, k ∈ ks ↔ ∃ q ∈ setGo (l.map conv) [], nm q = k := fun k => by rw [h.mem_iff, keys_is, List.mem_map]
  rcases hh with ⟨rfl, hn⟩ | ⟨rfl, r, rfl, hn⟩
  · have f1 : (setGo (l.map conv) []).filter isAN = [] := List.filter_eq_nil_iff.2 fun q hq he => hn ((hk _).2 ⟨q, hq, by simpa [isAN] using he⟩)
    have f2 : (setGo (l.map conv) []).filter (fun q => !isAN q) = setGo (l.map conv) [] := List.filter_eq_self.2 fun q hq => by
      cases he : isAN q
      · rfl
      · exact absurd ((hk _).2 ⟨q, hq, by simpa [isAN] using he⟩) hn
    rw [f1, f2, List.nil_append]
    show (srt ks).map _ = _
    exact sortedSet_is l ks h
  · obtain ⟨a, f1, ha, hna⟩ := filter_one hS ((hk _).1 (by simp))
    rw [f1]
    have hp : r.Perm (((setGo (l.map conv) []).filter (fun q => !isAN q)).map nm) := by
      have h2 := h.filter (fun k => !(k == lAN))
      rw [keys_is, List.filter_map] at h2
      have e1 : (lAN :: r).filter (fun k => !(k == lAN)) = r := by
        rw [List.filter_cons_of_neg (by simp)]
        exact List.filter_eq_self.2 fun k hk => by
          cases he : (k == lAN)
          · rfl
          · exact absurd (by rw [← (beq_iff_eq.1 he)]; exact hk) hn
      rw [e1] at h2
      exact h2
    have e2 : srtL r = ((setGo (l.map conv) []).filter (fun q => !isAN q)).map nm := by
      have e3 : srtL r = srtL (((setGo (l.map conv) []).filter (fun q => !isAN q)).map nm) := mergeSort_of_perm hp
      rw [e3, srtL_sorted _ (List.Pairwise.filter _ hS)]
    show (pairOf (mset l) (byB lAN)) :: (srt r).map _ = _
    rw [← hna, pair_val l a ha]
    unfold srt
    rw [e2, List.map_map, List.map_map, List.map_append]
    show _ :: _ = _ :: _
    congr 1
    exact List.map_congr_left fun q hq => pair_val l q (List.mem_filter.1 hq).1
theorem plain_from (l : List S115) (hl : l.length < 4398046511104) (d : Nat) : ∀ (n k : Nat) (X : List S26), n + d = l.length → d < k → X.length = n →
    impl_plain.l0 k X l (l.length : Int) n = some (X ++ (l.drop n).map toP) := by
  induction d with
  | zero =>
    intro n k X hn hk hX
    obtain ⟨k, rfl⟩ : ∃ m, k = m + 1 := ⟨k - 1, by omega⟩
    simp only [impl_plain.l0]
    rw [if_neg (by omega), List.drop_of_length_le (by omega)]
    simp
  | succ d ih =>
    intro n k X hn hk hX
    obtain ⟨k, rfl⟩ : ∃ m, k = m + 1 := ⟨k - 1, by omega⟩
    have hlt : n < l.length := by omega
    simp only [impl_plain.l0]
    have e1 : rd_T115 l (n : Int) = l[n] := by simp [rd_T115, List.getD_eq_getElem?_getD, List.getElem?_eq_getElem hlt]
    have e2 : wrap64 ((n : Int) + 1) = ((n + 1 : Nat) : Int) := by unfold wrap64; omega
    rw [if_pos (by omega), if_pos (by omega), if_pos (by omega), if_pos (by omega), e1, e2, ih (n + 1) k _ (by omega) (by omega) (by simp [hX]), List.drop_eq_getElem_cons hlt, List.map_cons, List.append_assoc]
    rfl
theorem plain_is (l : List S115) (hl : l.length < 4398046511104) (k : Nat) (hk : l.length < k) : impl_plain.f k l = some (l.map toP) := by
  unfold impl_plain.f
  have := plain_from l hl l.length 0 k [] (by omega) hk rfl
  simpa using this
theorem kvOrd_len (X : List S59) : (kvOrd X).length = X.length := by
  unfold kvOrd
  rw [List.length_append]
  induction X with
  | nil => rfl
  | cons a X ih => cases h : isAN a <;> simp [h] <;> omega
theorem kvO_len (l : List S26) : (kvO l).length ≤ l.length := by
  unfold kvO
  rw [List.length_map, kvOrd_len]
  have := Sset_len (l.map conv) []
  simpa using this
end Go.Proofs.Ytikhlolhodgegaa.Q
namespace Go.Proofs.Ytikhlolhodgegaa.Q
open Go.RowKit Go.Proofs.YtikhlolhodgegaaW.PrintWords Go.Proofs.YtikhlolhodgegaaW.PrintLast Go.Proofs.YtikhlolhodgegaaW.PrintMore
attribute [local go_sem] max2_int min2_int max_two min_two max_three min_three max_four min_four
theorem kvL_lenM {l : List S26} {ks : List (List UInt8)} {s : Nat} (h : ks.Perm (strKeys (mset l))) (hh : KvHead s ks) : (kvL s ks).length ≤ l.length := by
  rw [kvL_len s ks hh.le]
  exact len_perm h
def impl_SortedPairs.f (l0 : List (S26)) : Option ((List (S26))) := if l0.length ≤ 300000000 ∧ shortPairs l0 then some (kvO l0) else none
set_option maxRecDepth 100000 in
set_option maxHeartbeats 800000 in
theorem impl_SortedPairs.calls (A0 : Option Addr) (c0 : Nat) (l0 : List (S26)) (r : List (S26)) (w : World) (hr0 : Kd.C k26 w A0 l0.length l0) (hc0 : l0.length ≤ c0) (h : impl_SortedPairs.f l0 = some r) :
    Calls Try.prog 29 #[.slice A0 l0.length c0] w fun e w' => ∃ v0_ : Value, e = .returned (v0_) ∧ Kd.R k26 26 w' w.heap.size (fun _ => True) v0_ r ∧ Below w.heap.size w w' := by
  unfold impl_SortedPairs.f at h
  split at h
  case isFalse => cases h
  rename_i hh
  obtain ⟨hl0, hs0⟩ := hh
  obtain rfl := Option.some.inj h
  clear h
  have HR0 := Aside0.mk hr0
  have HS0 := Aside0.mk hs0
  clear hr0 hs0
  go_enter Try.func29, Try.ntmps29
  go_wp2_with fail
  refine (kv_calls _ _ _ _ HR0.out hc0 (by omega) HS0.out).mono ?_
  rintro e w1 ⟨b1, rfl, hb1, ho1, hB1⟩
  have HO1 := Aside0.mk ho1
  have HB1 := Aside0.mk hB1
  clear hb1 ho1 hB1
  go_wp2_with fail
  refine (kvSorted_calls _ _ _ _ HO1.out (by have := size_mset l0; omega)).mono ?_
  rintro e w2 ⟨v, rfl, ks, hks, s, hh, hR, hB2⟩
  have hlen := kvL_lenM hks hh
  have HE2 : Aside0 (((kvL s ks).map (tpair (mset l0))).map toP = kvO l0) := ⟨by rw [List.map_map]; exact kvOrd_is l0 ks hks s hh⟩
  rw [← List.length_map (tpair (mset l0))] at hlen
  clear hks hh
  generalize (kvL s ks).map (tpair (mset l0)) = L at *
  have HB2 := Aside0.mk (below_step HB1.out hB2)
  obtain ⟨A, c, e4, hc4, hC4⟩ := Kd.R_reads hR
  subst e4
  have HC4 := Aside0.mk hC4
  clear hB2 hR hC4
  go_wp2_with fail
  have hpl := plain_is L (by omega) (L.length + 1) (by omega)
  refine (impl_plain.calls _ _ _ _ _ _ HC4.out hc4 hpl).mono ?_
  rintro e w3 ⟨v3, rfl, hR3, hB3⟩
  have HB3 := Aside0.mk (below_step HB2.out hB3)
  have HR3 := Aside0.mk (Kd.R_lower hR3 HB2.out.size)
  clear hR3 hB3 hpl
  go_wp2
  go_ret
  exact ⟨_, rfl, by have := HR3.out; rwa [HE2.out] at this, HB3.out⟩
end Go.Proofs.Ytikhlolhodgegaa.Q
