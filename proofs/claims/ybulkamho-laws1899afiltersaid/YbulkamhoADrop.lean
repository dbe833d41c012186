import Derived.Test.YbulkamhoAWalks
import Derived.Test.YbulkamhoRow43
namespace Go.Proofs.Ybulkamho
open Go.RowKit
set_option linter.unusedSimpArgs false

theorem chg_cells (x k p : Int) : (chg x k p)[0]? = some (.int .u8 x) ∧ (chg x k p)[1]? = some (.int .u8 0) ∧ (chg x k p)[2]? = some (.int .u8 0) ∧ (chg x k p)[3]? = some (.int .u8 0) ∧
    (chg x k p)[4]? = some (.int .u8 0) ∧ (chg x k p)[5]? = some (.int .u8 0) ∧ (chg x k p)[6]? = some (.int .u8 0) ∧ (chg x k p)[7]? = some (.int .u8 0) ∧ (chg x k p)[23]? = some (.int .u32 k) := ⟨rfl, rfl, rfl, rfl, rfl, rfl, rfl, rfl, rfl⟩

/-! ### Lists -/
theorem chg_length (x k p : Int) : (chg x k p).length = 29 := rfl
theorem cells3_take (l : List (Int × Int × Int)) (m : Nat) (h : m ≤ l.length) : (cells3 l).take (m * 29) = cells3 (l.take m) := by
  have e : cells3 l = cells3 (l.take m) ++ cells3 (l.drop m) := by
    unfold cells3; rw [← List.flatMap_append, List.take_append_drop]
  rw [e]
  have hl : (cells3 (l.take m)).length = m * 29 := by rw [cells3_length, List.length_take]; congr 1; omega
  rw [← hl, List.take_left]
theorem cells3_drop (l : List (Int × Int × Int)) (m : Nat) (h : m ≤ l.length) : (cells3 l).drop (m * 29) = cells3 (l.drop m) := by
  have e : cells3 l = cells3 (l.take m) ++ cells3 (l.drop m) := by
    unfold cells3; rw [← List.flatMap_append, List.take_append_drop]
  rw [e]
  have hl : (cells3 (l.take m)).length = m * 29 := by rw [cells3_length, List.length_take]; congr 1; omega
  rw [← hl, List.drop_left]
theorem cells3_set (l : List (Int × Int × Int)) (m : Nat) (h : m < l.length) (c : Int × Int × Int) :
    (cells3 l).take (m * 29) ++ chg c.1 c.2.1 c.2.2 ++ (cells3 l).drop (m * 29 + 29) = cells3 (l.set m c) := by
  have e : m * 29 + 29 = (m + 1) * 29 := by omega
  rw [e, cells3_take l m (by omega), cells3_drop l (m + 1) (by omega), List.set_eq_take_append_cons_drop, if_pos h]
  simp [cells3]

/-- Which changes are kept. -/
def keepB (who key : Int) (c : Int × Int × Int) : Bool := !(c.1 == who) || decide (key < c.2.1)

/-- After t rounds: the first m of L are what is kept of the first t of l; from t on L is l. -/
structure Kept (who key : Int) (l L : List (Int × Int × Int)) (t m : Nat) : Prop where
  len : L.length = l.length
  mt : m ≤ t
  tn : t ≤ l.length
  done : L.take m = (l.take t).filter (keepB who key)
  rest : L.drop t = l.drop t
theorem Kept.start (who key : Int) (l : List (Int × Int × Int)) : Kept who key l l 0 0 := ⟨rfl, Nat.le_refl _, Nat.zero_le _, by simp, rfl⟩
theorem Kept.at {who key : Int} {l L : List (Int × Int × Int)} {t m : Nat} (h : Kept who key l L t m) : L[t]? = l[t]? := by
  have := congrArg (fun x => x[0]?) h.rest
  simpa using this
theorem Kept.yes {who key : Int} {l L : List (Int × Int × Int)} {t m : Nat} (h : Kept who key l L t m) {c : Int × Int × Int} (hc : l[t]? = some c) (hk : keepB who key c = true) : Kept who key l (L.set m c) (t + 1) (m + 1) := by
  have ht : t < l.length := (List.getElem?_eq_some_iff.1 hc).1
  have hl := h.len
  have hm := h.mt
  refine ⟨by simpa using h.len, by omega, by omega, ?_, ?_⟩
  · rw [List.take_add_one, List.take_set_of_le (Nat.le_refl _), h.done, List.take_add_one, hc, List.filter_append]
    simp [hk, show m < L.length from by omega]
  · rw [List.drop_set_of_lt (by omega)]
    have := congrArg (List.drop 1) h.rest
    simpa using this
theorem Kept.end {who key : Int} {l L : List (Int × Int × Int)} {t m : Nat} (h : Kept who key l L t m) (ht : t = l.length) : m = (l.filter (keepB who key)).length ∧ L.take (l.filter (keepB who key)).length = l.filter (keepB who key) := by
  have h1 := h.done
  rw [ht, List.take_length] at h1
  have h2 := congrArg List.length h1
  rw [List.length_take, Nat.min_eq_left (by rw [h.len]; have := h.mt; have := h.tn; omega)] at h2
  exact ⟨h2, by rw [← h2]; exact h1⟩
theorem Kept.no {who key : Int} {l L : List (Int × Int × Int)} {t m : Nat} (h : Kept who key l L t m) {c : Int × Int × Int} (hc : l[t]? = some c) (hk : keepB who key c = false) : Kept who key l L (t + 1) m := by
  have ht : t < l.length := (List.getElem?_eq_some_iff.1 hc).1
  have hm := h.mt
  refine ⟨h.len, by omega, by omega, ?_, ?_⟩
  · rw [h.done, List.take_add_one, hc, List.filter_append]
    simp [hk]
  · have := congrArg (List.drop 1) h.rest
    simpa using this

/-! ### The row in memory -/
/-- Block g holds a row of c changes, of which the first are L. -/
def RowIs (w : World) (g c : Nat) (L : List (Int × Int × Int)) : Prop :=
  ∃ cur : Array Value, w.heap[g]? = some (.cells cur 43 (0, 0)) ∧ cur.size = c * 29 ∧ cur.toList.take (L.length * 29) = cells3 L

theorem RowIs.range {w : World} {g c : Nat} {L : List (Int × Int × Int)} (h : RowIs w g c L) {t : Nat} {x k p : Int} (ht : L[t]? = some (x, k, p)) : w.rangeAt g (t * 29) (chg x k p) := by
  obtain ⟨cur, hg, hs, htk⟩ := h
  have htl := (List.getElem?_eq_some_iff.1 ht).1
  intro j v hv
  have hj : j < 29 := (List.getElem?_eq_some_iff.1 hv).1
  rw [cell_of_row w g _ cur 43 (0, 0) hg]
  have h1 : (cur.toList.take (L.length * 29))[t * 29 + j]? = cur[t * 29 + j]? := by
    rw [List.getElem?_take, if_pos (by omega)]; simp
  rw [← h1, htk]
  have h2 : (cells3 L)[t * 29 + j]? = ((cells3 L).drop (t * 29))[j]? := by rw [List.getElem?_drop]
  rw [h2, cells3_drop L t (by omega), List.drop_eq_getElem_cons htl]
  have h3 : L[t] = (x, k, p) := by rw [List.getElem?_eq_getElem htl] at ht; exact Option.some.inj ht
  rw [h3]
  simp only [cells3, List.flatMap_cons]
  rw [List.getElem?_append_left (by rw [chg_length]; exact hj)]
  exact hv

theorem splice_take (C B : List Value) (a n N : Nat) (hB : B.length = n) (h1 : a + n ≤ N) (h2 : N ≤ C.length) : (C.take a ++ B ++ C.drop (a + n)).take N = (C.take N).take a ++ B ++ (C.take N).drop (a + n) := by
  have hX : (C.take a ++ B).length = a + n := by rw [List.length_append, List.length_take, hB]; omega
  rw [List.take_append, List.take_of_length_le (by omega), hX, List.take_take, Nat.min_eq_left (by omega), List.drop_take]

theorem RowIs.keep {w w' : World} {g c : Nat} {L : List (Int × Int × Int)} (h : RowIs w g c L) (e : w'.heap[g]? = w.heap[g]?) : RowIs w' g c L := by
  obtain ⟨cur, hg, r⟩ := h
  exact ⟨cur, e.trans hg, r⟩

/-- 'append' of one change within the row, at place m. -/
theorem wpList_append_at {P : Program} (w : World) {ops : Array Oper} {rest : List Oper} {o : Oper} {a : Act} {Q : Exit → Act → World → Prop}
    (hgd : o.guard = none) (s x : Operand) (t : TypeId) (hop : o.op = Op.call { callee := Callee.builtin Builtin.append, args := #[s, x], argTypes := #[t, t] })
    (i : TypeInfo) (h1 : P.underlying t = some (.slice 43)) (h2 : P.info? 43 = some i) (h4 : i.size = 29)
    (g m cap : Nat) (L : List (Int × Int × Int)) (hs : a.eval s = .slice (some ⟨g, 0, none⟩) m cap) (hrow : RowIs w g cap L) (hm : m < L.length) (hL : L.length ≤ cap)
    (ad : Addr) (cc : Nat) (y k p : Int) (hx : a.eval x = .slice (some ad) 1 cc) (hc : ∀ j u, (chg y k p)[j]? = some u → w.cell? (ad.add j) = some u)
    (hK : ∀ w', RowIs w' g cap (L.set m (y, k, p)) → w.grownBy w' (some g) → wpList P ops Q rest (a.put o.dst (.slice (some ⟨g, 0, none⟩) (m + 1) cap)) w') :
    wpList P ops Q (o :: rest) a w := by
  refine wpList_plain hgd fun K hK' => ?_
  obtain ⟨cur, hg, hs', htk⟩ := hrow
  have hrun := run_append_room (P := P) w t o.type 43 i h1 h2 g m cap cur hg ad 1 cc (chg y k p) (by rw [chg_length, h4]) hc (chg_one _ _ _) (by omega) (by rw [chg_length, h4]; omega)
  rw [h4, chg_length] at hrun
  unfold Oper.wp
  simp [execOp, hop, resolve, invoke, builtin, hs, hx, hrun, Result.andThen]
  refine hK' _ _ (hK _ ⟨_, setRow_heap w g cur _ 43 _ hg, ?_, ?_⟩ ⟨rfl, rfl, rfl, by simp [World.setRow], fun k _ hk => setRow_other w g k _ (fun e => hk (by simp [e]))⟩)
  · simp [chg_length]; omega
  · have e1 := cells3_set L m hm (y, k, p)
    rw [List.length_set, ← e1, ← htk]
    rw [← List.append_assoc]
    exact splice_take cur.toList (chg y k p) (m * 29) 29 (L.length * 29) rfl (by omega) (by simp; omega)

/-! ### dropReplays -/
/-- What holds of memory at every round's head: the resumption's block, the sender's box, the row; below R nothing has turned. -/
structure DropAt (w wr : World) (R g c : Nat) (latest sent read who : Int) (n : Nat) (L : List (Int × Int × Int)) : Prop where
  blk : wr.heap[R]? = some (.cells #[.int .u32 latest, .int .i64 sent, .int .i64 read, .slice (some ⟨g, 0, none⟩) n c] 46 (0, 0))
  box : wr.heap[w.heap.size]? = some (.cells #[.int .u8 who, .int .u8 0, .int .u8 0, .int .u8 0, .int .u8 0, .int .u8 0, .int .u8 0, .int .u8 0] 28 (0, 0))
  row : RowIs wr g c L
  bel : Below R w wr
  big : w.heap.size < wr.heap.size

theorem DropAt.eight {w wr : World} {R g c : Nat} {latest sent read who : Int} {n : Nat} {L : List (Int × Int × Int)} (h : DropAt w wr R g c latest sent read who n L) :
    wr.cell? ⟨w.heap.size, 0, none⟩ = some (.int .u8 who) ∧ wr.cell? ⟨w.heap.size, 1, none⟩ = some (.int .u8 0) ∧ wr.cell? ⟨w.heap.size, 2, none⟩ = some (.int .u8 0) ∧ wr.cell? ⟨w.heap.size, 3, none⟩ = some (.int .u8 0) ∧
    wr.cell? ⟨w.heap.size, 4, none⟩ = some (.int .u8 0) ∧ wr.cell? ⟨w.heap.size, 5, none⟩ = some (.int .u8 0) ∧ wr.cell? ⟨w.heap.size, 6, none⟩ = some (.int .u8 0) ∧ wr.cell? ⟨w.heap.size, 7, none⟩ = some (.int .u8 0) := by
  have e := fun j => cell_of_row wr w.heap.size j _ 28 (0, 0) h.box
  exact ⟨e 0, e 1, e 2, e 3, e 4, e 5, e 6, e 7⟩

theorem DropAt.next {w wr w1 : World} {R g c : Nat} {latest sent read who : Int} {n : Nat} {L L' : List (Int × Int × Int)} {o1 o2 : Obj} (h : DropAt w wr R g c latest sent read who n L)
    (hgr : ((wr.alloc o1).alloc o2).grownBy w1 (some g)) (hrow : RowIs w1 g c L') (hRg : R < g) (hgw : g < w.heap.size) : DropAt w w1 R g c latest sent read who n L' := by
  have hb := h.big
  have e : ∀ k, k < wr.heap.size → k ≠ g → w1.heap[k]? = wr.heap[k]? := fun k hk hkg => by
    rw [hgr.block k (by simp; omega) (by simpa using hkg), Below.heap_alloc _ _ _ (by simp; omega), Below.heap_alloc _ _ _ hk]
  have hs := hgr.size
  simp at hs
  refine ⟨(e R (by omega) (by omega)).trans h.blk, (e _ h.big (by omega)).trans h.box, hrow, ?_, by omega⟩
  exact Below.grown ((h.bel.alloc (by omega) _).alloc (by simp; omega) _) hgr (by simp; omega) (fun k hk => by cases hk; omega)
theorem DropAt.same {w wr : World} {R g c : Nat} {latest sent read who : Int} {n : Nat} {L : List (Int × Int × Int)} {o1 : Obj} (h : DropAt w wr R g c latest sent read who n L) (hgw : g < w.heap.size) (hR : R < w.heap.size) : DropAt w (wr.alloc o1) R g c latest sent read who n L := by
  have hb := h.big
  refine ⟨(Below.heap_alloc _ _ _ (by omega)).trans h.blk, (Below.heap_alloc _ _ _ h.big).trans h.box, h.row.keep (Below.heap_alloc _ _ _ (by omega)), h.bel.alloc (by omega) _, by simp; omega⟩

theorem news2 (w : World) (o1 : Obj) (cs : List Value) (t : TypeId) : ∀ j u, cs[j]? = some u → ((w.alloc o1).alloc (.cells cs.toArray t)).cell? ((⟨w.heap.size + 1, 0, none⟩ : Addr).add j) = some u := by
  intro j u hj
  have e : (w.alloc o1).heap.size = w.heap.size + 1 := by simp
  have h := World.news_of_block (heap_alloc_new (w.alloc o1) (.cells cs.toArray t)) j u (by simpa using hj)
  rw [e] at h
  exact h

set_option maxRecDepth 100000 in
set_option maxHeartbeats 1600000 in
theorem dropSome (R g c : Nat) (who key latest sent read : Int) (l : List (Int × Int × Int)) (w : World)
    (hblk : w.heap[R]? = some (.cells #[.int .u32 latest, .int .i64 sent, .int .i64 read, .slice (some ⟨g, 0, none⟩) l.length c] 46 (0, 0)))
    (hrow : RowIs w g c l) (hn : l.length ≤ 1024) (hRg : R < g) (hgl : g < w.heap.size) (hnc : l.length ≤ c) :
    Calls Yba.prog 8 #[.pointer (some ⟨R, 0, none⟩), .agg #[.int .u8 who, .int .u8 0, .int .u8 0, .int .u8 0, .int .u8 0, .int .u8 0, .int .u8 0, .int .u8 0], .int .u32 key] w fun e w' => e = .returned (.tuple #[]) ∧
      ∃ L, w'.heap[R]? = some (.cells #[.int .u32 latest, .int .i64 sent, .int .i64 read, .slice (some ⟨g, 0, none⟩) (l.filter (keepB who key)).length c] 46 (0, 0)) ∧ RowIs w' g c L ∧
        L.length = l.length ∧ L.take (l.filter (keepB who key)).length = l.filter (keepB who key) ∧ Below R w w' := by
  obtain ⟨i0, hi, hz⟩ := Option.map_eq_some_iff.1 Yba.info43
  simp only [Prod.mk.injEq] at hz
  obtain ⟨_, hz1, _⟩ := hz
  have cR : w.cell? ⟨R, 3, none⟩ = some (.slice (some ⟨g, 0, none⟩) l.length c) := by rw [cell_of_row w R 3 _ 46 (0, 0) hblk]; rfl
  have hR : R < w.heap.size := World.block_lt_of_cell? w _ cR
  have heq := fun w a b => equal28 9998 a b w
  have hgd := eqGuard28
  have h0 : DropAt w (w.alloc (.cells #[.int .u8 who, .int .u8 0, .int .u8 0, .int .u8 0, .int .u8 0, .int .u8 0, .int .u8 0, .int .u8 0] 28)) R g c latest sent read who l.length l :=
    ⟨(Below.heap_alloc _ _ _ hR).trans hblk, heap_alloc_new _ _, hrow.keep (Below.heap_alloc _ _ _ hgl), (Below.refl _ _).alloc (by omega) _, by simp⟩
  have HN : Hid (l.length ≤ 1024) := hn
  obtain ⟨n, hln⟩ : ∃ n, n = l.length := ⟨_, rfl⟩
  have HLN : Hid (n = l.length) := hln
  rw [← hln] at h0 cR hn hnc
  clear hblk hrow hln
  go_enter Yba.func8, Yba.ntmps8
  go_wp2_with fail
  go_loopw [6, 19] (fun v j wr => ∃ t m L, t ≤ n ∧ j = .int .i64 (t : Nat) ∧ v = .slice (some ⟨g, 0, none⟩) m c ∧ Kept who key l L t m ∧ DropAt w wr R g c latest sent read who n L) (fun _ i _ => n - (intOf i).toNat)
  case atStart => exact ⟨0, 0, l, Nat.zero_le _, rfl, rfl, Kept.start _ _ _, h0⟩
  case round =>
    obtain ⟨t, m, L, ht, rfl, rfl, hk, hd⟩ := hrel
    clear h0 cR
    by_cases hlt : t < n
    · have htl : t < l.length := by rw [← HLN.out]; exact hlt
      obtain ⟨⟨x, k, p⟩, hc⟩ : ∃ c, l[t]? = some c := ⟨l[t], List.getElem?_eq_getElem htl⟩
      have HRT : Hid (wr.rangeAt g (t * 29) (chg x k p)) := hd.row.range (hk.at.trans hc)
      obtain ⟨b0, b1, b2, b3, b4, b5, b6, b7⟩ := hd.eight
      have hbig := hd.big
      obtain ⟨y0, y1, y2, y3, y4, y5, y6, y7, y23⟩ := chg_cells x k p
      have hmL : m < L.length := by have := hk.mt; rw [hk.len]; omega
      have HC : Hid (l[t]? = some (x, k, p)) := hc
      clear hc
      by_cases hxw : x = who
      · by_cases hkk : key < k
        · have hb : (x == who) = true := by simpa using hxw
          have HKP : Hid (keepB who key (x, k, p) = true) := by simp [Hid, keepB, hkk]
          have hb' : (!(x == who)) = false := by simp [hxw]
          clear hxw
          go_wp2_with (first | (refine wpList_load_mid rfl 43 (.tmp 21) rfl g (t * 29) rfl (chg x k p) _ HRT.out Yba.underlying43 rfl (by rw [size43]; rfl) ?_) | (refine wpList_store_fresh43 rfl (.tmp 8) (.tmp 22) rfl (chg x k p) _ rfl rfl rfl rfl (chg_one _ _ _) ?_) | (refine wpList_load_row rfl 43 (.tmp 8) rfl wr.heap.size rfl 43 (chg x k p).toArray (0, 0) _ (heap_alloc_new _ _) Yba.underlying43 rfl (by rw [size43]; rfl) ?_) | (refine wpList_buildSlice43 rfl (.tmp 35) rfl (chg x k p) rfl rfl (wr.heap.size + 1) (by simp) ?_) | (at_builtin; refine wpList_append_at _ rfl (.tmp 34) (.tmp 36) 31 rfl i0 Yba.underlying31 hi hz1 g m c L rfl ((hd.same hgl hR).same hgl hR).row hmL (by rw [hk.len, ← HLN.out]; exact hnc) ⟨wr.heap.size + 1, 0, none⟩ 1 x k p rfl (news2 wr _ (chg x k p) 43) ?_; intro w1 hrow1 hgrow1))
          have hd1 := hd.next hgrow1 hrow1 hRg hgl
          clear hrow1 hgrow1 hd b0 b1 b2 b3 b4 b5 b6 b7 HRT
          go_wp2
          go_roundw
          case rel => exact ⟨t + 1, m + 1, _, by omega, by go_num, rfl, hk.yes HC.out HKP.out, hd1⟩
          case measure => simp [intOf]; omega
        · have hb : (x == who) = true := by simpa using hxw
          have HKP : Hid (keepB who key (x, k, p) = false) := by simp [Hid, keepB, hkk, hxw]
          have hkk' : decide (key < k) = false := by simp; omega
          clear hxw
          go_wp2_with (first | (refine wpList_load_mid rfl 43 (.tmp 21) rfl g (t * 29) rfl (chg x k p) _ HRT.out Yba.underlying43 rfl (by rw [size43]; rfl) ?_) | (refine wpList_store_fresh43 rfl (.tmp 8) (.tmp 22) rfl (chg x k p) _ rfl rfl rfl rfl (chg_one _ _ _) ?_) | (refine wpList_load_row rfl 43 (.tmp 8) rfl wr.heap.size rfl 43 (chg x k p).toArray (0, 0) _ (heap_alloc_new _ _) Yba.underlying43 rfl (by rw [size43]; rfl) ?_) | (refine wpList_buildSlice43 rfl (.tmp 35) rfl (chg x k p) rfl rfl (wr.heap.size + 1) (by simp) ?_))
          have hd1 := fun o => hd.same (o1 := o) hgl hR
          go_roundw
          case rel => exact ⟨t + 1, m, L, by omega, by go_num, rfl, hk.no HC.out HKP.out, hd1 _⟩
          case measure => simp [intOf]; omega
      · have hb : (x == who) = false := by simpa using hxw
        have HKP : Hid (keepB who key (x, k, p) = true) := by simp [Hid, keepB, hxw]
        clear hxw
        go_wp2_with (first | (refine wpList_load_mid rfl 43 (.tmp 21) rfl g (t * 29) rfl (chg x k p) _ HRT.out Yba.underlying43 rfl (by rw [size43]; rfl) ?_) | (refine wpList_store_fresh43 rfl (.tmp 8) (.tmp 22) rfl (chg x k p) _ rfl rfl rfl rfl (chg_one _ _ _) ?_) | (refine wpList_load_row rfl 43 (.tmp 8) rfl wr.heap.size rfl 43 (chg x k p).toArray (0, 0) _ (heap_alloc_new _ _) Yba.underlying43 rfl (by rw [size43]; rfl) ?_) | (refine wpList_buildSlice43 rfl (.tmp 35) rfl (chg x k p) rfl rfl (wr.heap.size + 1) (by simp) ?_) | (at_builtin; refine wpList_append_at _ rfl (.tmp 34) (.tmp 36) 31 rfl i0 Yba.underlying31 hi hz1 g m c L rfl ((hd.same hgl hR).same hgl hR).row hmL (by rw [hk.len, ← HLN.out]; exact hnc) ⟨wr.heap.size + 1, 0, none⟩ 1 x k p rfl (news2 wr _ (chg x k p) 43) ?_; intro w1 hrow1 hgrow1))
        have hd1 := hd.next hgrow1 hrow1 hRg hgl
        clear hrow1 hgrow1 hd b0 b1 b2 b3 b4 b5 b6 b7 HRT
        go_wp2
        go_roundw
        case rel => exact ⟨t + 1, m + 1, _, by omega, by go_num, rfl, hk.yes HC.out HKP.out, hd1⟩
        case measure => simp [intOf]; omega
    · obtain rfl : t = n := by omega
      have hblk := hd.blk
      have cR : wr.cell? ⟨R, 3, none⟩ = some (.slice (some ⟨g, 0, none⟩) t c) := by rw [cell_of_row wr R 3 _ 46 (0, 0) hblk]; rfl
      have fR : wr.frozen? ⟨R, 3, none⟩ = false := frozen_of_blk hblk
      have HB : Hid (wr.heap[R]? = some (.cells #[.int .u32 latest, .int .i64 sent, .int .i64 read, .slice (some ⟨g, 0, none⟩) t c] 46 (0, 0))) := hblk
      clear hblk
      go_wp2
      go_end0
      refine ⟨rfl, L, ?_, hd.row.keep (heap_setCell_other _ _ _ _ (by show g ≠ R; omega)), hk.len, ?_, hd.bel.setCell (Nat.le_refl _) _⟩
      · rw [heap_setCell_same wr R 3 _ 46 _ HB.out, ← (hk.end HLN.out).1]
        simp
      · exact (hk.end HLN.out).2

end Go.Proofs.Ybulkamho
