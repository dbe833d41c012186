import Derived.Test.YbulkamhoADrop
namespace Go.Proofs.Ybulkamho
open Go.RowKit
set_option linter.unusedSimpArgs false

set_option maxRecDepth 100000 in
set_option maxHeartbeats 400000 in
theorem dropNone (R : Nat) (who key latest sent read : Int) (w : World)
    (hblk : w.heap[R]? = some (.cells #[.int .u32 latest, .int .i64 sent, .int .i64 read, .slice none 0 0] 46 (0, 0))) :
    Calls Yba.prog 8 #[.pointer (some ⟨R, 0, none⟩), .agg #[.int .u8 who, .int .u8 0, .int .u8 0, .int .u8 0, .int .u8 0, .int .u8 0, .int .u8 0, .int .u8 0], .int .u32 key] w fun e w' => e = .returned (.tuple #[]) ∧
      w'.heap[R]? = some (.cells #[.int .u32 latest, .int .i64 sent, .int .i64 read, .slice none 0 0] 46 (0, 0)) ∧ Below R w w' ∧ w.heap.size ≤ w'.heap.size := by
  have cR : w.cell? ⟨R, 3, none⟩ = some (.slice none 0 0) := by rw [cell_of_row w R 3 _ 46 (0, 0) hblk]; rfl
  have fR : w.frozen? ⟨R, 3, none⟩ = false := frozen_of_blk hblk
  have hR : R < w.heap.size := World.block_lt_of_cell? w _ cR
  have HB : Hid (w.heap[R]? = some (.cells #[.int .u32 latest, .int .i64 sent, .int .i64 read, .slice none 0 0] 46 (0, 0))) := hblk
  clear hblk
  go_enter Yba.func8, Yba.ntmps8
  go_wp2_with fail
  refine wp_loop_rounds 1 ?_
  rw [rounds_succ]
  go_wp2
  go_end0
  refine ⟨rfl, ?_, ?_, ?_⟩
  · rw [Below.heap_alloc _ _ _ (by simpa using hR), heap_setCell_same w R 3 _ 46 _ HB.out]
    simp
  · exact ((Below.refl R w).setCell (p := ⟨R, 3, none⟩) (Nat.le_refl _) _).alloc (by simp; omega) _
  · simp

/-- dropReplays on a resumption that the call made. -/
theorem dropA (R base : Nat) (who key latest sent read : Int) (l : List (Int × Int × Int)) (ao : Option Addr) (c : Nat) (w : World) (hres : Resu w R base latest sent read l ao c) (hn : l.length ≤ 1024) :
    Calls Yba.prog 8 #[.pointer (some ⟨R, 0, none⟩), .agg #[.int .u8 who, .int .u8 0, .int .u8 0, .int .u8 0, .int .u8 0, .int .u8 0, .int .u8 0, .int .u8 0], .int .u32 key] w fun e w' => e = .returned (.tuple #[]) ∧
      Resu w' R base latest sent read (l.filter (keepB who key)) ao c ∧ Below R w w' := by
  have hlow := hres.low
  have hfit := hres.fits
  rcases hres.own.2 with ⟨hv, hl⟩ | ⟨g, cap, cur, hv, hb, hg, hnc, hcm, hcs, htk⟩
  · obtain rfl : l = [] := List.eq_nil_of_length_eq_zero hl
    simp at hv
    obtain ⟨rfl, rfl⟩ := hv
    refine (dropNone R who key latest sent read w hres.blk).mono ?_
    rintro e w' ⟨rfl, h1, h2, h3⟩
    exact ⟨rfl, ⟨h1, World.ownsRow_nil _ _ _ _, hlow, by omega⟩, h2⟩
  · simp at hv
    obtain ⟨rfl, rfl⟩ := hv
    have hgl : g < w.heap.size := (Array.getElem?_eq_some_iff.1 hg).1
    refine (dropSome R g c who key latest sent read l w hres.blk ⟨cur, hg, hcs, htk⟩ hn (by omega) hgl hnc).mono ?_
    rintro e w' ⟨rfl, L, h1, ⟨cur', h2, h3, h4⟩, h5, h6, h7⟩
    have hfl : (l.filter (keepB who key)).length ≤ l.length := List.length_filter_le _ _
    refine ⟨rfl, ⟨h1, ⟨cells3_length _, .inr ⟨g, c, cur', rfl, hb, h2, by omega, hcm, h3, ?_⟩⟩, hlow, by have := h7.size; omega⟩, h7⟩
    rw [← h6, ← cells3_take L _ (by omega), ← h4, List.take_take]
    congr 1
    simp
end Go.Proofs.Ybulkamho
