import Derived.Test.YbulkamjeGroup
import Derived.Deep.OwnRows
namespace Go.Proofs.Ybulkamje
open Go.RowKit

theorem mi25 : (Yba.prog.info? 25).map (fun i => (i.zero, i.size, i.bytes)) = some (some (.int .u64 0), 1, 8) := by kernel_rfl
theorem mi43 : (Yba.prog.info? 43).map (fun i => (i.zero, i.size, i.bytes)) = some (some (.slice none 0 0), 1, 24) := by kernel_rfl
theorem mi59 : (Yba.prog.info? 59).map (fun i => (i.zero, i.size, i.bytes)) = some (some (.slice none 0 0), 1, 24) := by kernel_rfl
theorem mi9 : (Yba.prog.info? 9).map (fun i => (i.zero, i.size, i.bytes)) = some (some (.string ByteArray.empty), 1, 16) := by kernel_rfl
theorem mi149 : (Yba.prog.info? 149).map (fun i => (i.zero.isSome, decide (i.bytes ≤ 10000))) = some (true, true) := by kernel_rfl

/-- make of frames. -/
theorem mk59 (k : Nat) (hk : k ≤ 3) : ∃ cs, ∀ w : World, (Instr.makeSlice 59 (.int .i64 k) (.int .i64 k)).run Yba.prog w = .ok (.slice (some ⟨w.heap.size, 0, none⟩) k k) (w.alloc (.cells cs 149)) := by
  obtain ⟨i, hi, h2⟩ := Option.map_eq_some_iff.1 mi149
  simp only [Prod.mk.injEq, decide_eq_true_eq] at h2
  obtain ⟨z, hz⟩ := Option.isSome_iff_exists.1 h2.1
  refine ⟨madeCells z.cells (k * i.size), fun w => ?_⟩
  have hb : (i.bytes : Int) * (k : Int) ≤ 281474976710656 := by
    have h1 : i.bytes * k ≤ 10000 * 3 := Nat.mul_le_mul h2.2 hk
    have : ((i.bytes * k : Nat) : Int) ≤ 281474976710656 := by omega
    rwa [Int.natCast_mul] at this
  have := run_make (P := Yba.prog) w 59 149 i z Yba.underlying59 hi hz .i64 .i64 k k (by omega) (Int.le_refl _) hb (by omega)
  simpa only [Int.toNat_natCast] using this

theorem madeCells_row (z : Value) (n : Nat) : madeCells #[z] n = rowV n (fun _ => z) := by
  apply Array.ext
  · simp [madeCells, rowV]
  · intro i h1 h2
    simp [madeCells, rowV, Nat.mod_one]

theorem mk43 (n : Nat) (hn : n ≤ 1000) (w : World) : (Instr.makeSlice 43 (.int .i64 n) (.int .i64 n)).run Yba.prog w = .ok (.slice (some ⟨w.heap.size, 0, none⟩) n n) (w.alloc (.cells (rowV n fun _ => .int .u64 0) 25)) := by
  have := run_make_row' (P := Yba.prog) 43 25 (.int .u64 0) 8 Yba.underlying43 mi25 rfl .i64 .i64 n (by omega) (by omega) w
  rw [madeCells_row] at this
  exact this
theorem mk44 (n : Nat) (hn : n ≤ 1000) (w : World) : (Instr.makeSlice 44 (.int .i64 n) (.int .i64 n)).run Yba.prog w = .ok (.slice (some ⟨w.heap.size, 0, none⟩) n n) (w.alloc (.cells (rowV n fun _ => .slice none 0 0) 59)) := by
  have := run_make_row' (P := Yba.prog) 44 59 (.slice none 0 0) 24 Yba.underlying44 mi59 rfl .i64 .i64 n (by omega) (by omega) w
  rw [madeCells_row] at this
  exact this
theorem mk45 (n : Nat) (hn : n ≤ 1000) (w : World) : (Instr.makeSlice 45 (.int .i64 n) (.int .i64 n)).run Yba.prog w = .ok (.slice (some ⟨w.heap.size, 0, none⟩) n n) (w.alloc (.cells (rowV n fun _ => .slice none 0 0) 43)) := by
  have := run_make_row' (P := Yba.prog) 45 43 (.slice none 0 0) 24 Yba.underlying45 mi43 rfl .i64 .i64 n (by omega) (by omega) w
  rw [madeCells_row] at this
  exact this
theorem mk28 (n : Nat) (hn : n ≤ 1000) (w : World) : (Instr.makeSlice 28 (.int .i64 n) (.int .i64 n)).run Yba.prog w = .ok (.slice (some ⟨w.heap.size, 0, none⟩) n n) (w.alloc (.cells (rowV n fun _ => .string ByteArray.empty) 9)) := by
  have := run_make_row' (P := Yba.prog) 28 9 (.string ByteArray.empty) 16 Yba.underlying28 mi9 rfl .i64 .i64 n (by omega) (by omega) w
  rw [madeCells_row] at this
  exact this
end Go.Proofs.Ybulkamje
