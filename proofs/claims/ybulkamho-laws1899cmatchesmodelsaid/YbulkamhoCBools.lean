import Derived.Test.YbulkamhoCHead
namespace Go.Proofs.Ybulkamho
open Go.RowKit

/-- The four flags that say which handles are in U. -/
def bools (U : List Int) : Array Value := #[.bool (decide ((0 : Int) ∈ U)), .bool (decide ((1 : Int) ∈ U)), .bool (decide ((2 : Int) ∈ U)), .bool (decide ((3 : Int) ∈ U))]
theorem four {y : Int} (h0 : 0 ≤ y) (h1 : y < 4) : y = 0 ∨ y = 1 ∨ y = 2 ∨ y = 3 := by omega
theorem bools_at (U : List Int) (y : Int) (h0 : 0 ≤ y) (h1 : y < 4) : (bools U)[y.toNat]? = some (.bool (decide (y ∈ U))) := by
  rcases four h0 h1 with rfl | rfl | rfl | rfl <;> rfl
theorem bools_set (U : List Int) (y : Int) (h0 : 0 ≤ y) (h1 : y < 4) : (bools U).setIfInBounds y.toNat (.bool true) = bools (ins U y) := by
  have e : ∀ z : Int, decide (z ∈ ins U y) = (decide (z ∈ U) || decide (z = y)) := fun z => by
    rw [Bool.eq_iff_iff]; simp [ins_mem]
  simp only [bools, e]
  rcases four h0 h1 with rfl | rfl | rfl | rfl <;> simp

/-- Memory at the head of a round of the law's own model. -/
structure BB (w wr : World) (U Sn : List Int) : Prop where
  bu : wr.heap[w.heap.size]? = some (.cells (bools U) 59 (0, 0))
  bs : wr.heap[w.heap.size + 1]? = some (.cells (bools Sn) 59 (0, 0))
  bel : Below w.heap.size w wr
theorem BB.big {w wr : World} {U Sn : List Int} (h : BB w wr U Sn) : w.heap.size + 1 < wr.heap.size := (Array.getElem?_eq_some_iff.1 h.bs).1
theorem BB.later {w wr w1 : World} {U Sn : List Int} (h : BB w wr U Sn) (hb : Below wr.heap.size wr w1) : BB w w1 U Sn := by
  have hz := h.big
  exact ⟨(hb.block _ (by omega)).trans h.bu, (hb.block _ (by omega)).trans h.bs, h.bel.trans (hb.mono h.bel.size)⟩
theorem BB.up {w wr w1 : World} {U Sn : List Int} {B : Nat} (h : BB w wr U Sn) (hb : Below B wr w1) (hB : w.heap.size + 1 < B) : BB w w1 U Sn :=
  ⟨(hb.block _ (by omega)).trans h.bu, (hb.block _ (by omega)).trans h.bs, h.bel.trans (hb.mono (by omega))⟩
theorem BB.atU {w wr : World} {U Sn : List Int} (h : BB w wr U Sn) (y : Int) (h0 : 0 ≤ y) (h1 : y < 4) : wr.cell? ⟨w.heap.size, y.toNat, none⟩ = some (.bool (decide (y ∈ U))) := by
  rw [cell_of_row wr w.heap.size y.toNat _ 59 (0, 0) h.bu]; exact bools_at U y h0 h1
theorem BB.atS {w wr : World} {U Sn : List Int} (h : BB w wr U Sn) (y : Int) (h0 : 0 ≤ y) (h1 : y < 4) : wr.cell? ⟨w.heap.size + 1, y.toNat, none⟩ = some (.bool (decide (y ∈ Sn))) := by
  rw [cell_of_row wr (w.heap.size + 1) y.toNat _ 59 (0, 0) h.bs]; exact bools_at Sn y h0 h1
theorem BB.setU {w wr : World} {U Sn : List Int} (h : BB w wr U Sn) (y : Int) (h0 : 0 ≤ y) (h1 : y < 4) : BB w (wr.setCell ⟨w.heap.size, y.toNat, none⟩ (.bool true)) (ins U y) Sn := by
  refine ⟨?_, (heap_setCell_other wr ⟨w.heap.size, y.toNat, none⟩ _ _ (by simp)).trans h.bs, h.bel.setCell (Nat.le_refl _) _⟩
  rw [heap_setCell_same wr w.heap.size y.toNat _ 59 _ h.bu, bools_set U y h0 h1]
theorem BB.setS {w wr : World} {U Sn : List Int} (h : BB w wr U Sn) (y : Int) (h0 : 0 ≤ y) (h1 : y < 4) : BB w (wr.setCell ⟨w.heap.size + 1, y.toNat, none⟩ (.bool true)) U (ins Sn y) := by
  refine ⟨(heap_setCell_other wr ⟨w.heap.size + 1, y.toNat, none⟩ _ _ (by simp)).trans h.bu, ?_, h.bel.setCell (Nat.le_succ _) _⟩
  rw [heap_setCell_same wr (w.heap.size + 1) y.toNat _ 59 _ h.bs, bools_set Sn y h0 h1]
theorem BB.start (w : World) : BB w ((w.alloc (.cells #[.bool false, .bool false, .bool false, .bool false] 59)).alloc (.cells #[.bool false, .bool false, .bool false, .bool false] 59)) [] [] := by
  have e : bools [] = #[.bool false, .bool false, .bool false, .bool false] := by simp [bools]
  refine ⟨?_, ?_, ((Below.refl _ _).alloc (Nat.le_refl _) _).alloc (by simp) _⟩
  · rw [e, Below.heap_alloc _ _ _ (by simp)]; exact heap_alloc_new _ _
  · rw [e]
    have := heap_alloc_new (w.alloc (.cells #[.bool false, .bool false, .bool false, .bool false] 59)) (.cells #[.bool false, .bool false, .bool false, .bool false] 59)
    simpa using this

/-- The bytes that the model keeps. -/
def keptX (U : List Int) (X : Nat → Int) (n : Nat) : List Int := ((List.range n).map X).filter fun x => !decide (x % 4 ∈ U)
theorem keptX_succ (U : List Int) (X : Nat → Int) (n : Nat) : keptX U X (n + 1) = keptX U X n ++ (if X n % 4 ∈ U then [] else [X n]) := by
  unfold keptX
  rw [List.range_succ, List.map_append, List.filter_append]
  congr 1
  by_cases h : X n % 4 ∈ U <;> simp [h]
theorem keptX_out (U : List Int) (X : Nat → Int) (n : Nat) : (keptX U X n).map (· % 4) = outOf U (m4 X n) := by
  induction n with
  | zero => rfl
  | succ n ih =>
    rw [keptX_succ, m4_succ, List.map_append, ih, outOf, outOf, List.filter_append]
    congr 1
    by_cases h : X n % 4 ∈ U <;> simp [h]
theorem keptX_m4 (U : List Int) (X : Nat → Int) (n : Nat) : m4 (fun i => (keptX U X n).getD i 0) (keptX U X n).length = outOf U (m4 X n) := by
  rw [← keptX_out]
  generalize keptX U X n = l
  apply List.ext_getElem?
  intro i
  by_cases h : i < l.length <;> simp [m4, h]
theorem keptX_length (U : List Int) (X : Nat → Int) (n : Nat) : (keptX U X n).length = (outOf U (m4 X n)).length := by rw [← keptX_out, List.length_map]
theorem keptX_le (U : List Int) (X : Nat → Int) (n : Nat) : (keptX U X n).length ≤ n := by
  rw [keptX_length]; have := outOf_length U (m4 X n); rw [m4_length] at this; exact this
theorem keptX_mem (U : List Int) (X : Nat → Int) (n : Nat) (z : Int) (h : z ∈ keptX U X n) : ∃ i, i < n ∧ z = X i := by
  simp only [keptX, List.mem_filter, List.mem_map, List.mem_range] at h
  obtain ⟨⟨i, hi, rfl⟩, _⟩ := h
  exact ⟨i, hi, rfl⟩

/-- A row of bytes that the call made itself. -/
def KL (w : World) (base : Nat) (ao : Option Addr) (c : Nat) (l : List Int) : Prop := w.ownsRow base 5 1 (.slice ao l.length c) l.length (l.map (Value.int .u8))
end Go.Proofs.Ybulkamho
