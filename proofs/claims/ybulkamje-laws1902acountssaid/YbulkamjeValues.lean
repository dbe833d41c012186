import Derived.RangeFuncBox
import Derived.RangeFuncLeaves
import Derived.Shelf.Abstract
import Derived.WalkKit
import Derived.OwnWalkIn
import Derived.TacticsInMore
import Derived.LoopNIn
import Derived.LoopIn
import Derived.Maps.AppendAt
import Derived.Test.YbulkamjeIter
namespace Go.Proofs.Ybulkamje
open Go.RowKit Go.Shelf Go.Maps Go.Sort

attribute [local go_sem] Oper.semAt_some

theorem info9 : (Yba.prog.info? 9).map (fun i => (i.zero, i.size, i.bytes)) = some (some (.string ⟨#[]⟩), 1, 16) := by kernel_rfl

set_option maxRecDepth 100000 in
set_option maxHeartbeats 2000000 in
/-- slices.Values' closure over a slice of strings that lies below n₀. -/
theorem values1 (F : Fence) (n : Nat) (h44 : F.fn 44) (hro : F.round = none) (hn : 1 ≤ n) (l Bs n₀ b off cap : Nat) (ss : List (List UInt8)) (hlen : ss.length ≤ 256) (hb : b < n₀) (J Jx : List (List UInt8) → World → Prop)
    (hY : ∀ pre x W, J pre W → pre.length < ss.length → YieldAt F (n - 1) Yba.prog l #[encStr x] W fun e W' =>
      (e = .returned (.bool true) ∧ J (pre ++ [x]) W' ∧ Below n₀ W W') ∨ (e = .returned (.bool false) ∧ Jx (pre ++ [x]) W'))
    (W : World) (hBs : W.cell? ⟨Bs, 0, none⟩ = some (.slice (some ⟨b, off, none⟩) ss.length cap)) (hc : ∀ j, j < ss.length → W.cell? ⟨b, off + j, none⟩ = some (encStr (ss.getD j []))) (h0 : J [] W) :
    CallsIn F n Yba.prog 44 #[.func (.yield l) #[] #[], .pointer (some ⟨Bs, 0, none⟩)] W fun e W' => (∃ v, e = .returned v) ∧
      ((∃ ys, ys = ss ∧ J ys W') ∨ (∃ pre, pre <+: ss ∧ Jx pre W')) := by
  have htk : ∀ k, k < ss.length → ss.take (k + 1) = ss.take k ++ [ss.getD k []] := fun k hk => by
    rw [List.take_add_one, List.getD_eq_getElem?_getD, List.getElem?_eq_getElem hk]; rfl
  refine callsIn_of_wp Yba.func44 rfl h44 ?_ hro
  simp only [Yba.ntmps44, List.size_toArray, List.length_cons, List.length_nil, Nat.reduceAdd, Nat.reduceSub, Array.replicate_succ, Array.replicate_zero, List.push_toArray, List.append_toArray, List.nil_append, List.cons_append]
  obtain ⟨len, hln⟩ : ∃ len, len = ss.length := ⟨_, rfl⟩
  rw [← hln] at hBs
  have HL : Hid (len = ss.length) := hln
  gi_wp2
  gi_loopw [7] (fun i wr => ∃ k : Nat, k ≤ len ∧ i = .int .i64 k ∧ J (ss.take k) wr ∧ Below n₀ W wr) (fun i _ => len - (intOf i).toNat)
  case atStart => exact ⟨0, Nat.zero_le _, rfl, h0, Below.refl _ _⟩
  case round =>
    obtain ⟨k, hk, rfl, hJs, hnx⟩ := hrel
    by_cases hlt : k < len
    · have hkl : k < ss.length := by omega
      obtain ⟨fn, tmps, assign, body, hy, hR⟩ := hY _ (ss.getD k []) wr hJs (by rw [List.length_take]; omega)
      have hcx' := (hnx.cell (p := ⟨b, off + k, none⟩) hb).trans (hc k hkl)
      have HT : Hid (ss.take (k + 1) = ss.take k ++ [ss.getD k []]) := htk k hkl
      generalize ss.getD k [] = x at *
      unfold encStr at hy hcx'
      clear hc htk
      gi_wp2
      refine hR.mono ?_
      rintro e W3 (⟨rfl, hJ3, hk3⟩ | ⟨rfl, hJx3⟩)
      · gi_wp2
        go_roundw
        case rel => exact ⟨k + 1, by omega, by simp, by rw [HT.out]; exact hJ3, hnx.trans hk3⟩
        case measure => simp [intOf]; omega
      · gi_wp2
        refine bodyPost_ret (results_none rfl _ _ _) rfl ?_
        exact ⟨⟨_, rfl⟩, .inr ⟨_, by rw [← HT.out]; exact List.take_prefix _ _, hJx3⟩⟩
    · obtain rfl : k = len := by omega
      gi_wp2
      go_end0
      exact ⟨⟨_, rfl⟩, .inl ⟨_, by rw [HL.out, List.take_length], hJs⟩⟩

set_option maxHeartbeats 1000000 in
theorem valuesF (F : Fence) (n : Nat) (h34 : F.fn 34) (hro : F.round = none) (a : Option Addr) (len cap : Nat) (w : World) :
    CallsIn F n Yba.prog 34 #[.slice a len cap] w fun e w' => e = .returned (.func (.func 44) #[] #[.pointer (some ⟨w.heap.size, 0, none⟩)]) ∧ w' = w.alloc (.cells #[.slice a len cap] 28) := by
  refine callsIn_of_wp Yba.func34 rfl h34 ?_ hro
  simp only [Yba.ntmps34, List.size_toArray, List.length_cons, List.length_nil, Nat.reduceAdd, Nat.reduceSub, Array.replicate_succ, Array.replicate_zero, List.push_toArray, List.append_toArray, List.nil_append, List.cons_append]
  gi_wp2
  go_ret
  exact ⟨rfl, rfl⟩

/-- What slices.Values hands back gives the strings in their order, to a body that keeps what lay below n₀. -/
theorem values_stops (F : Fence) (n : Nat) (h44 : F.fn 44) (hro : F.round = none) (hn : 1 ≤ n) (Bs n₀ b off cap : Nat) (ss : List (List UInt8)) (hlen : ss.length ≤ 256) (hb : b < n₀) (w : World) (hBs : Bs < w.heap.size) (hn₀ : n₀ ≤ w.heap.size)
    (hcb : w.cell? ⟨Bs, 0, none⟩ = some (.slice (some ⟨b, off, none⟩) ss.length cap)) (hc : ∀ j, j < ss.length → w.cell? ⟨b, off + j, none⟩ = some (encStr (ss.getD j []))) :
    SeqStopsK F n Yba.prog 44 #[.pointer (some ⟨Bs, 0, none⟩)] (fun x : List UInt8 => #[encStr x]) (Below n₀) (fun ys => ys = ss) (fun pre => pre <+: ss) ss.length w := fun l J Jx W hW _ _ hY h0 =>
  values1 F n h44 hro hn l Bs n₀ b off cap ss hlen hb J Jx hY W ((hW.cell (p := ⟨Bs, 0, none⟩) hBs).trans hcb) (fun j hj => ((hW.mono hn₀).cell (p := ⟨b, off + j, none⟩) hb).trans (hc j hj)) h0

set_option maxRecDepth 100000 in
set_option maxHeartbeats 2000000 in
/-- slices.AppendSeq(nil, slices.Values(s)). -/
theorem appendSeqF (F : Fence) (n : Nat) (h37 : F.fn 37) (h44 : F.fn 44) (hro : F.round = none) (hn : 3 ≤ n) (Bs b off cap : Nat) (ss : List (List UInt8)) (hlen : ss.length ≤ 256) (w : World) (hBs : Bs < w.heap.size) (hb : b < w.heap.size)
    (hcb : w.cell? ⟨Bs, 0, none⟩ = some (.slice (some ⟨b, off, none⟩) ss.length cap)) (hc : ∀ j, j < ss.length → w.cell? ⟨b, off + j, none⟩ = some (encStr (ss.getD j []))) :
    CallsIn F n Yba.prog 37 #[.slice none 0 0, .func (.func 44) #[] #[.pointer (some ⟨Bs, 0, none⟩)]] w fun e W' => ∃ v, e = .returned v ∧ W'.ownsRow w.heap.size 9 1 v ss.length (ss.map encStr) ∧ (v = .slice none 0 0 ↔ ss = []) ∧ Below w.heap.size w W' := by
  have h1 : 1 ≤ n := by omega
  obtain ⟨i0, hi, hz0, hz1, hz2⟩ := info_parts info9
  refine callsIn_of_wp_marks Yba.func37 rfl h37 ?_ hro
  simp only [Yba.ntmps37, List.size_toArray, List.length_cons, List.length_nil, Nat.reduceAdd, Nat.reduceSub, Array.replicate_succ, Array.replicate_zero, List.push_toArray, List.append_toArray, List.nil_append, List.cons_append]
  gi_wp2
  have bO := Boxed.new w 28 (.slice none 0 0)
  have hB0 : Below w.heap.size w (w.alloc (.cells #[.slice none 0 0] 28)) := (Below.refl _ w).alloc (Nat.le_refl _) _
  refine wpIn_rangeFunc_ownG hro h1 (gf := 44) (lb := #[.pointer (some ⟨Bs, 0, none⟩)]) rfl h44 (enters_of Yba.func44 (by kernel_rfl) rfl)
    (values_stops F (n - 1) h44 hro (by omega) Bs w.heap.size b off cap ss hlen hb (w.alloc (.cells #[.slice none 0 0] 28)) (by simp; omega) (by simp) ((hB0.cell hBs).trans hcb) (fun j hj => (hB0.cell (p := ⟨b, off + j, none⟩) hb).trans (hc j hj))) belowK_t (belowK_b (by simp)) (Below.refl _ _) (fun _ => rfl)
    (fun pre W => (∃ v, Boxed W w.heap.size 28 v ∧ W.ownsRow w.heap.size 9 1 v pre.length (pre.map encStr) ∧ (v = .slice none 0 0 ↔ pre = [])) ∧ Below w.heap.size w W)
    (fun _ _ _ => False)
    (OwnFrom.and (Own.from (holdsRow_own w.heap.size w.heap.size 28 9 1 (fun pre : List (List UInt8) => pre.length) (fun pre => pre.map encStr) (fun pre v => v = .slice none 0 0 ↔ pre = [])) _) (ownFrom_below (Nat.le_refl _) (by simp)))
    (fun _ _ _ _ _ hs _ _ => hs)
    ⟨⟨_, bO, World.ownsRow_nil _ _ _ _, by simp⟩, hB0⟩
    (fun x => { tmps := #[.slice none 0 0, .func (.func 44) #[] #[.pointer (some ⟨Bs, 0, none⟩)], .pointer (some ⟨w.heap.size, 0, none⟩), undef, .slice none 0 0, encStr x, .func (.func 44) #[] #[.pointer (some ⟨Bs, 0, none⟩)], encStr x, undef, undef, undef, undef, undef], defers := [] }) ?assign ?body ?done ?stop
  case assign =>
    intro l x W K hK
    gi_wp2
    exact hK
  case body =>
    rintro l pre x W ⟨⟨v, hv, hrow, hnil⟩, hB⟩ hlt
    have hc := hv.cell
    gi_wp2_with (gi_at_builtin; refine wpListIn_append_own _ rfl _ _ 28 rfl w.heap.size 9 i0 (.string ⟨#[]⟩) 1 16 Yba.underlying28 hi hz0 hz1 hz2 rfl (by decide) _ _ _ rfl (hrow.alloc _) ⟨W.heap.size, 0, none⟩ 1 1 [encStr x] rfl rfl (cell_one_new _ _ _) (by simp [Value.oneCell', encStr]) (by unfold maxLen; omega) (by omega) (by have := hB.size; simp; omega) ?_; intro v' w1 hown' hgrow _; obtain ⟨g', cap', rfl⟩ := ownsRow_succ hown'; obtain ⟨hv1, hv2, hr2, hk2, hb2⟩ := hv.appended (by decide) hrow hB.size (Nat.le_refl _) hown' hgrow; have hc1 := hv1.cell; have hf1 := hv1.frozen)
    exact ⟨hk2.from _, hb2, ⟨_, hv2, by simpa using hr2, by simp⟩, hB.trans hb2⟩
  case done =>
    rintro D ys W hD rfl ⟨⟨v, hv, hrow, hnil⟩, hB⟩ hK
    have hc := hv.cell
    gi_wp2
    refine ⟨by simp, .inl ⟨_, _, rfl, run_takeDeferred hK, ?_⟩⟩
    exact ⟨_, results_tmp rfl _ _ _, v, rfl, ownsRow_putObj hrow _ hK rfl, hnil, hB.trans (belowK_b (w := w) (Nat.le_refl _) W D _ _ (by simp at hD; omega) hK rfl rfl)⟩
  case stop =>
    rintro D c pre W _ _ h _
    exact h.elim

/-- slices.Collect, slices.Sorted of what slices.Values handed back: the strings, sorted, in a row of the call's own. -/
theorem collectF (Bs b off cap : Nat) (ss : List (List UInt8)) (hlen : ss.length ≤ 256) (w : World) (hBs : Bs < w.heap.size) (hb : b < w.heap.size)
    (hcb : w.cell? ⟨Bs, 0, none⟩ = some (.slice (some ⟨b, off, none⟩) ss.length cap)) (hc : ∀ j, j < ss.length → w.cell? ⟨b, off + j, none⟩ = some (encStr (ss.getD j []))) :
    Calls Yba.prog 28 #[.func (.func 44) #[] #[.pointer (some ⟨Bs, 0, none⟩)]] w fun e W' => ∃ v, e = .returned v ∧ W'.ownsRow w.heap.size 9 1 v ss.length (ss.map encStr) ∧ Below w.heap.size w W' := by
  have HA := (callsIn_wide (n := 4)).1 (appendSeqF Fence.wide 4 trivial trivial rfl (by omega) Bs b off cap ss hlen w hBs hb hcb hc)
  go_enter Yba.func28, Yba.ntmps28
  go_wp2_with (go_at_call 37; refine HA.mono ?_; rintro e w1 ⟨v, rfl, hrow, hnil, hb1⟩)
  go_ret
  exact ⟨v, rfl, hrow, hb1⟩

theorem sortedF (Bs b off cap : Nat) (ss : List (List UInt8)) (hlen : ss.length ≤ 256) (hpos : 0 < ss.length) (w : World) (hBs : Bs < w.heap.size) (hb : b < w.heap.size)
    (hcb : w.cell? ⟨Bs, 0, none⟩ = some (.slice (some ⟨b, off, none⟩) ss.length cap)) (hc : ∀ j, j < ss.length → w.cell? ⟨b, off + j, none⟩ = some (encStr (ss.getD j []))) :
    Calls Yba.prog 21 #[.func (.func 44) #[] #[.pointer (some ⟨Bs, 0, none⟩)]] w fun e W' => ∃ g c, e = .returned (.slice (some ⟨g, 0, none⟩) ss.length c) ∧ W'.ownsRow w.heap.size 9 1 (.slice (some ⟨g, 0, none⟩) ss.length c) ss.length ((ss.mergeSort (fun x y => decide (x ≤ y))).map encStr) ∧ Below w.heap.size w W' := by
  have HC := collectF Bs b off cap ss hlen w hBs hb hcb hc
  clear hcb hc
  go_enter Yba.func21, Yba.ntmps21
  go_wp2_with (go_at_call 28; refine HC.mono ?_; rintro e w1 ⟨v, rfl, hrow, hb1⟩)
  rcases hrow.2 with ⟨rfl, hz⟩ | ⟨gb, cap1, cur, rfl, hbase, hgb, r1, r2, r3, r4⟩
  · omega
  · have hH : Holds encStr w1 gb 0 ss.toArray := holds_of_block hgb (by simpa using r4)
    have hgl : gb < w1.heap.size := (Array.getElem?_eq_some_iff.1 hgb).1
    have cS := AnyM.slices_Sort_string Yba.sort29 gb 0 cap1 ss w1 hH hgl (by omega)
    go_wp2_with (go_at_call 29; refine cS.mono ?_; rintro e w' ⟨rfl, nn, os, rfl⟩)
    go_ret
    exact ⟨gb, cap1, rfl, ownsRow_sorted (by simp) hbase hgb r1 r2 r3, hb1.grown (grownBy_sorted _) hb1.size (fun j hj => by cases hj; exact hbase)⟩
end Go.Proofs.Ybulkamje
