import Derived.Test.YbulkamjeOrder
import Derived.Test.YbulkamjeAcked
namespace Go.Proofs.Ybulkamje
open Go.RowKit Go.Maps Go.WideMaps Go.Shelf Go.Sort
set_option linter.unusedSimpArgs false

/-- The state of the builder's loop. -/
structure Bp (w1 wr : World) (gb i : Nat) (Dg : DataW Nat) (rb sz : Nat → Nat) : Prop where
  om : wr.ownsMap Yba.prog 9 Rs gb i Dg
  tab : Tab Dg (fun j => decide (j < i)) (fun j => .agg [.lit (.int .i64 (rb j)), .lit (.int .i64 (sz j)), .lit (.int .i64 (sz j))])
  rows : ∀ j, j < i → (1 ≤ sz j ∧ sz j ≤ 4) ∧ rb j < wr.heap.size ∧ rb j ≠ gb ∧ ∀ q, q < sz j → wr.cell? ⟨rb j, q, none⟩ = some (.string (mem q))
  fr : Away gb (gb + 1) w1 wr
theorem Bp.next {w1 wr w' : World} {gb i : Nat} {Dg : DataW Nat} {rb sz : Nat → Nat} (h : Bp w1 wr gb i Dg rb sz) (hi : i < 256) (b k : Nat) (hk : 1 ≤ k ∧ k ≤ 4) (hb : b < w'.heap.size) (hbg : b ≠ gb) (hc : ∀ q, q < k → w'.cell? ⟨b, q, none⟩ = some (.string (mem q)))
    (hm : w'.ownsMap Yba.prog 9 Rs gb (i + 1) (Dg.put (lit i) (.agg [.lit (.int .i64 b), .lit (.int .i64 k), .lit (.int .i64 k)]))) (hf : Away gb (gb + 1) wr w') :
    Bp w1 w' gb (i + 1) (Dg.put (lit i) (.agg [.lit (.int .i64 b), .lit (.int .i64 k), .lit (.int .i64 k)])) (updV rb i b) (updV sz i k) := by
  refine ⟨hm, ?_, fun j hj => ?_, h.fr.trans hf⟩
  · have ht := h.tab.put i hi (.agg [.lit (.int .i64 b), .lit (.int .i64 k), .lit (.int .i64 k)])
    have e1 : (fun j => decide (j < i) || decide (j = i)) = (fun j => decide (j < i + 1)) := by
      funext j
      by_cases h1 : j < i
      · have : j < i + 1 := by omega
        simp [h1, this]
      · by_cases h2 : j = i
        · simp [h2]
        · have : ¬ j < i + 1 := by omega
          simp [h1, h2, this]
    have e2 : (fun j => if j = i then (.agg [.lit (.int .i64 b), .lit (.int .i64 k), .lit (.int .i64 k)] : DataW Nat) else .agg [.lit (.int .i64 (rb j)), .lit (.int .i64 (sz j)), .lit (.int .i64 (sz j))]) = (fun j => .agg [.lit (.int .i64 ((updV rb i b j : Nat) : Int)), .lit (.int .i64 ((updV sz i k j : Nat) : Int)), .lit (.int .i64 ((updV sz i k j : Nat) : Int))]) := by
      funext j
      simp only [updV]
      split <;> rfl
    rw [e1, e2] at ht
    exact ht
  · by_cases e : j = i
    · subst e
      simp only [updV, if_true]
      exact ⟨hk, hb, hbg, hc⟩
    · simp only [updV, if_neg e]
      obtain ⟨a1, a2, a3, a4⟩ := h.rows j (by omega)
      exact ⟨a1, Nat.lt_of_lt_of_le a2 hf.size, a3, fun q hq => (hf.cell (p := ⟨rb j, q, none⟩) a2 (by show rb j < gb ∨ gb + 1 ≤ rb j; omega)).trans (a4 q hq)⟩

theorem St.lower {w : World} {B0 B0' B O mb nn N : Nat} {Dm : DataW Nat} {sh : Nat → Shape} {D : Nat → Nat → Int} {K : Nat → Nat → Nat} {A : Nat → Nat → Nat → Int} (h : St w B0 B O mb nn N Dm sh D K A) (hb : B0' ≤ B0) : St w B0' B O mb nn N Dm sh D K A :=
  ⟨h.cO, h.own, h.tab, h.g, h.hi, fun i hi => Nat.le_trans hb (h.lo i hi), h.sz, h.ap, h.oO, h.om⟩

/-- A row of names, filled so far. -/
def nmV (j : Nat) : Nat → Value := fun q => if q < j then .string (mem q) else .string ByteArray.empty
theorem nmV_step (j : Nat) : updV (nmV j) j (.string (mem j)) = nmV (j + 1) := by
  funext q
  simp only [updV, nmV]
  by_cases h : q = j
  · subst h; simp
  · have : (q < j + 1) = (q < j) := by simp; omega
    simp only [if_neg h, this]

set_option maxRecDepth 100000 in
set_option maxHeartbeats 1600000 in
theorem buildC (a : Option Addr) (len cap : Nat) (X : Nat → Int) (w : World) (hlen : len ≤ 256) (hb : BY w.heap.size w a len X) : Builds a len cap w := by
  have HBY : Hid (BY w.heap.size w a len X) := hb
  have hmm := fun t W => run_makeMap (P := Yba.prog) t W
  clear hb
  unfold Builds
  go_enter Yba.func7, Yba.ntmps7
  go_wp2_with fail
  have hs1 : ((w.alloc (.cells #[.string ⟨#[97]⟩, .string ⟨#[98]⟩, .string ⟨#[99]⟩, .string ⟨#[100]⟩] 69)).alloc (.map #[] 0)).heap.size = w.heap.size + 1 + 1 := by simp
  have HB1 : Hid (Below w.heap.size w ((w.alloc (.cells #[.string ⟨#[97]⟩, .string ⟨#[98]⟩, .string ⟨#[99]⟩, .string ⟨#[100]⟩] 69)).alloc (.map #[] 0))) := ((Below.refl _ w).alloc (Nat.le_refl _) _).alloc (by simp) _
  have HM1 : Hid (((w.alloc (.cells #[.string ⟨#[97]⟩, .string ⟨#[98]⟩, .string ⟨#[99]⟩, .string ⟨#[100]⟩] 69)).alloc (.map #[] 0)).ownsMap Yba.prog 9 Rs (w.heap.size + 1) 0 (.map [])) := made_at _ _ _ (by simp)
  have HAR : Hid (∀ j, j < 4 → ((w.alloc (.cells #[.string ⟨#[97]⟩, .string ⟨#[98]⟩, .string ⟨#[99]⟩, .string ⟨#[100]⟩] 69)).alloc (.map #[] 0)).cell? ⟨w.heap.size, j, none⟩ = some (.string (mem j))) := fun j hj => by
    rw [World.cell?_of_block (w := w.alloc (.cells #[.string ⟨#[97]⟩, .string ⟨#[98]⟩, .string ⟨#[99]⟩, .string ⟨#[100]⟩] 69)) (a := ⟨w.heap.size, j, none⟩) (Below.heap_alloc _ _ _ (by simp)), cell_of_row _ w.heap.size j _ 69 (0, 0) (heap_alloc_new _ _)]
    have : j = 0 ∨ j = 1 ∨ j = 2 ∨ j = 3 := by omega
    rcases this with rfl | rfl | rfl | rfl <;> rfl
  generalize ((w.alloc (.cells #[.string ⟨#[97]⟩, .string ⟨#[98]⟩, .string ⟨#[99]⟩, .string ⟨#[100]⟩] 69)).alloc (.map #[] 0)) = w1 at *
  obtain ⟨gb, hgb⟩ : ∃ gb, w.heap.size + 1 = gb := ⟨_, rfl⟩
  rw [hgb] at HM1 hs1 ⊢
  go_loopg [14] len (fun g v wr => ∃ (i : Nat) (Dg : DataW Nat) (rb sz : Nat → Nat), g = len - i ∧ i ≤ len ∧ v = .int .i64 i ∧ Bp w1 wr gb i Dg rb sz)
  case atStart => exact ⟨0, .map [], fun _ => 0, fun _ => 0, rfl, Nat.zero_le _, rfl, HM1.out, Tab.empty _ _ (fun i _ => by simp), fun j hj => by omega, Away.refl _ _ _⟩
  case round =>
    obtain ⟨i, Dg, rb, sz, rfl, hi, rfl, hbp⟩ := hrel
    have HP : Hid (Bp w1 wr gb i Dg rb sz) := hbp
    have hwr := hbp.fr.size
    clear hbp
    have HBW : Hid (Below w.heap.size w wr) := HB1.out.trans ((HP.out.fr.below (by omega) (by omega)).mono (by omega))
    by_cases hlt : i < len
    · obtain ⟨b, off, rfl, hbb, hx⟩ := (HBY.out.later HBW.out) (by omega)
      obtain ⟨cx, x0, x1⟩ := hx i hlt
      clear hx
      obtain ⟨kk, hkk⟩ : ∃ kk : Nat, X i % 4 = (kk : Int) := ⟨(X i % 4).toNat, by omega⟩
      have hk3 : kk ≤ 3 := by omega
      obtain ⟨k, hk1⟩ : ∃ k : Nat, 1 + (kk : Int) = (k : Int) := ⟨1 + kk, by omega⟩
      have hk4 : 1 ≤ k ∧ k ≤ 4 := by omega
      generalize X i = x at *
      have hmk := mk28 k (by omega)
      have hi0 : (0 : Int) ≤ (i : Int) := by omega
      have hi1 : (i : Int) < (len : Int) := by omega
      go_wp2_with fail
      have hs2 : (wr.alloc (.cells (rowV k fun _ => .string ByteArray.empty) 9)).heap.size = wr.heap.size + 1 := by simp
      have HZ2 : Hid ((wr.alloc (.cells (rowV k fun _ => .string ByteArray.empty) 9)).heap[wr.heap.size]? = some (.cells (rowV k (nmV 0)) 9 (0, 0))) := heap_alloc_new _ _
      have HA2 : Hid (Below wr.heap.size wr (wr.alloc (.cells (rowV k fun _ => .string ByteArray.empty) 9))) := (Below.refl _ _).alloc (Nat.le_refl _) _
      generalize wr.alloc (.cells (rowV k fun _ => .string ByteArray.empty) 9) = w2 at *
      clear hkk hk1 cx hmk
      have hgz : gb < wr.heap.size := by omega
      generalize hz : wr.heap.size = z at *
      have HAR2 : Hid (∀ j, j < 4 → w2.cell? ⟨w.heap.size, j, none⟩ = some (.string (mem j))) := fun j hj => ((HA2.out.cell (p := ⟨w.heap.size, j, none⟩) (by show w.heap.size < _; omega)).trans (HP.out.fr.cell (p := ⟨w.heap.size, j, none⟩) (by show w.heap.size < _; omega) (.inl (by show w.heap.size < _; omega)))).trans (HAR.out j hj)
      go_loopg [9] k (fun g v wz => ∃ j : Nat, g = k - j ∧ j ≤ k ∧ v = .int .i64 j ∧ wz.heap[z]? = some (.cells (rowV k (nmV j)) 9 (0, 0)) ∧ Away z (z + 1) w2 wz)
      case atStart => exact ⟨0, rfl, Nat.zero_le _, rfl, HZ2.out, Away.refl _ _ _⟩
      case round =>
        obtain ⟨j, rfl, hj, rfl, hrow, haw⟩ := hrel
        have HROW : Hid (wr.heap[z]? = some (.cells (rowV k (nmV j)) 9 (0, 0))) := hrow
        have HAW : Hid (Away z (z + 1) w2 wr) := haw
        have hws := haw.size
        clear hrow haw
        by_cases hjl : j < k
        · have c1 : wr.cell? ⟨w.heap.size, j, none⟩ = some (.string (mem j)) := (HAW.out.cell (p := ⟨w.heap.size, j, none⟩) (by show w.heap.size < _; omega) (.inl (by show w.heap.size < _; omega))).trans (HAR2.out j (by omega))
          have c2 : wr.cell? ⟨z, j, none⟩ = some (nmV j j) := by rw [cell_of_row wr z j _ 9 (0, 0) HROW.out, rowV_at _ _ j hjl]
          have c3 : wr.frozen? ⟨z, j, none⟩ = false := frozen_row HROW.out j
          generalize nmV j j = nv at *
          have hj0 : (0 : Int) ≤ (j : Int) := by omega
          have hj1 : (j : Int) < (k : Int) := by omega
          have hj4 : (j : Int) < 4 := by omega
          go_wp2_with fail
          have f1 : Hid ((wr.setCell ⟨z, j, none⟩ (.string (mem j))).heap[z]? = some (.cells (rowV k (nmV (j + 1))) 9 (0, 0))) := by
            have h := heap_setCell_row (p := j) HROW.out (.string (mem j))
            rw [rowV_set, nmV_step] at h
            exact h
          have f2 : Hid (Away z (z + 1) w2 (wr.setCell ⟨z, j, none⟩ (.string (mem j)))) := HAW.out.setCell (p := ⟨z, j, none⟩) (Nat.le_refl _) (Nat.lt_succ_self _) _
          generalize wr.setCell ⟨z, j, none⟩ (.string (mem j)) = w4 at *
          clear c1 c2 c3
          go_roundg (k - (j + 1))
          case measure => omega
          case rel => exact ⟨j + 1, rfl, by omega, by go_num, f1.out, f2.out⟩
        · obtain rfl : j = k := by omega
          have HNC := nameC i wr (by omega)
          have hzl : z < wr.heap.size := by omega
          have HM3 : Hid ((wr.alloc (.cells #[.int .u8 103, .int .u8 i] 5)).ownsMap Yba.prog 9 Rs gb i Dg) := ownsMap_block HP.out.om (((Below.heap_alloc _ _ _ (by omega)).trans (HAW.out.block gb (by omega) (.inl (by omega)))).trans (HA2.out.block gb (by omega)))
          go_wp2_with (first
            | (go_at_call 8; refine HNC.mono ?_; rintro e w5 ⟨rfl, hw5⟩; rw [hw5]; clear hw5)
            | (refine wpList_mapUpdate_own _ rfl (.tmp 36) (.tmp 38) (.tmp 39) 70 rfl 9 28 K9 Yba.underlying70 Rs gb i Dg rfl HM3.out (by unfold maxLen; omega) _ _ _ rfl rfl (keyOf_key i) _ [] rfl ?_; intro w6 hm6 hgr6; have HM6 : Hid (w6.ownsMap Yba.prog 9 Rs gb _ _) := hm6; have HG6 : Hid (World.grownBy _ w6 (some gb)) := hgr6; clear hm6 hgr6))
          have hl6 : (wr.alloc (.cells #[.int .u8 103, .int .u8 i] 5)).heap.size ≤ w6.heap.size := HG6.out.size
          have hl5 : (wr.alloc (.cells #[.int .u8 103, .int .u8 i] 5)).heap.size = wr.heap.size + 1 := by simp
          have hk6 : ∀ k, k < wr.heap.size → k ≠ gb → w6.heap[k]? = wr.heap[k]? := fun k h1 h2 => (HG6.out.block k (by omega) (by simpa using h2)).trans (Below.heap_alloc _ _ _ h1)
          have HN : Hid _ := HP.out.next (w' := w6) (by omega) z j hk4 (by omega) (by omega) (fun q hq => by
            rw [World.cell?_of_block (w := wr) (a := ⟨z, q, none⟩) (hk6 z hzl (by omega)), cell_of_row wr z q _ 9 (0, 0) HROW.out, rowV_at _ _ q hq]
            simp [nmV, hq]) HM6.out ⟨HG6.out.os.trans (HAW.out.os.trans HA2.out.os), HG6.out.tape.trans (HAW.out.tape.trans HA2.out.tape), HG6.out.output.trans (HAW.out.output.trans HA2.out.output), by omega, fun k h1 h2 => ((hk6 k (by omega) (by omega)).trans (HAW.out.block k (by omega) (by omega))).trans (HA2.out.block k (by omega))⟩
          clear hk6
          go_roundg (len - (i + 1))
          case measure => omega
          case rel => exact ⟨i + 1, _, _, _, rfl, by omega, by go_num, HN.out⟩
    · obtain rfl : i = len := by omega
      have HNO := newOrderC gb i i Dg rb sz sz wr hlen hlen HP.out.om HP.out.tab (fun j hj => (HP.out.rows j hj).1) (fun j hj => ⟨(HP.out.rows j hj).2.1, (HP.out.rows j hj).2.2.2⟩)
      go_wp2_with (go_at_call 13; refine HNO.mono ?_; rintro e w7 ⟨O, mb, nn, Dm, sh, rfl, hst, hb7⟩)
      go_ret
      exact ⟨O, mb, nn, Dm, sh, rfl, hst.lower (by omega), HBW.out.trans (hb7.mono (by omega))⟩
end Go.Proofs.Ybulkamje
