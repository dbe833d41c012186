import Derived.Test.YbulkamhoEq
import Derived.Deep.MidRow
namespace Go.Proofs.Ybulkamho
open Go.RowKit

theorem size43 : (Yba.prog.info? 43).map (·.size) = some 29 := by kernel_rfl
theorem zero43 : (Yba.prog.info? 43).map (fun i => (i.zero.map (·.cells.size), i.size)) = some (some 29, 29) := by kernel_rfl

theorem set29 (A : Array Value) (hA : A.size = 29) (c0 c1 c2 c3 c4 c5 c6 c7 c8 c9 c10 c11 c12 c13 c14 c15 c16 c17 c18 c19 c20 c21 c22 c23 c24 c25 c26 c27 c28 : Value) : ((((((((((((((((((((((((((((A.setIfInBounds 0 c0).setIfInBounds 1 c1).setIfInBounds 2 c2).setIfInBounds 3 c3).setIfInBounds 4 c4).setIfInBounds 5 c5).setIfInBounds 6 c6).setIfInBounds 7 c7).setIfInBounds 8 c8).setIfInBounds 9 c9).setIfInBounds 10 c10).setIfInBounds 11 c11).setIfInBounds 12 c12).setIfInBounds 13 c13).setIfInBounds 14 c14).setIfInBounds 15 c15).setIfInBounds 16 c16).setIfInBounds 17 c17).setIfInBounds 18 c18).setIfInBounds 19 c19).setIfInBounds 20 c20).setIfInBounds 21 c21).setIfInBounds 22 c22).setIfInBounds 23 c23).setIfInBounds 24 c24).setIfInBounds 25 c25).setIfInBounds 26 c26).setIfInBounds 27 c27).setIfInBounds 28 c28 = #[c0, c1, c2, c3, c4, c5, c6, c7, c8, c9, c10, c11, c12, c13, c14, c15, c16, c17, c18, c19, c20, c21, c22, c23, c24, c25, c26, c27, c28] := by
  obtain ⟨l⟩ := A
  match l, hA with
  | [a0, a1, a2, a3, a4, a5, a6, a7, a8, a9, a10, a11, a12, a13, a14, a15, a16, a17, a18, a19, a20, a21, a22, a23, a24, a25, a26, a27, a28], _ => simp only [List.setIfInBounds_toArray, List.set_cons_zero, List.set_cons_succ]

/-- '[]change{c}' as the walk lays it: a new block that holds c's cells. -/
theorem run_buildSlice43 (cs : List Value) (hl : cs.length = 29) (w : World) : (Instr.buildSlice 31 1 #[(0, .agg cs.toArray)]).run Yba.prog w = .ok (.slice (some ⟨w.heap.size, 0, none⟩) 1 1) (w.alloc (.cells cs.toArray 43)) := by
  obtain ⟨i, hi, hz⟩ := Option.map_eq_some_iff.1 zero43
  simp only [Prod.mk.injEq] at hz
  obtain ⟨hz0, hz1⟩ := hz
  obtain ⟨z, hz0, hzs⟩ := Option.map_eq_some_iff.1 hz0
  match cs, hl with
  | [c0, c1, c2, c3, c4, c5, c6, c7, c8, c9, c10, c11, c12, c13, c14, c15, c16, c17, c18, c19, c20, c21, c22, c23, c24, c25, c26, c27, c28], _ =>
    simp [Instr.buildSlice, run_underlying Yba.underlying31, sizeOf, typeInfo, hi, hz1, zeroValue, hz0, Instr.fill, Value.cells, newRow]
    exact congrArg (fun A => w.alloc (.cells A 43)) (set29 _ (by simp) _ _ _ _ _ _ _ _ _ _ _ _ _ _ _ _ _ _ _ _ _ _ _ _ _ _ _ _ _)

theorem wpList_buildSlice43 {ops : Array Oper} {rest : List Oper} {o : Oper} {a : Act} {w : World} {Q : Exit → Act → World → Prop} (hgd : o.guard = none) (x : Operand) (ho : o.op = .buildSlice 31 1 #[(0, x)])
    (cs : List Value) (hx : a.eval x = .agg cs.toArray) (hl : cs.length = 29) (H : Nat) (hH : w.heap.size = H)
    (h : wpList Yba.prog ops Q rest (a.put o.dst (.slice (some ⟨H, 0, none⟩) 1 1)) (w.alloc (.cells cs.toArray 43))) : wpList Yba.prog ops Q (o :: rest) a w := by
  refine wpList_plain hgd fun K hK => ?_
  have hrun := run_buildSlice43 cs hl w
  subst hH
  unfold Oper.wp execOp
  simp only [ho, List.map_toArray, List.map_cons, List.map_nil, hx, Sem.run_bind, hrun, Result.andThen_ok, Sem.run_pure]
  exact hK _ _ h

theorem setRow_last (w : World) (z c : Array Value) (t : TypeId) : (w.alloc (.cells z t)).setRow w.heap.size c = w.alloc (.cells c t) := by
  unfold World.setRow
  show { w with heap := (w.heap.push (.cells z t)).modify w.heap.size _ } = { w with heap := w.heap.push (.cells c t) }
  congr 1
  apply Array.ext
  · simp
  · intro i h1 h2
    simp only [Array.getElem_modify, Array.getElem_push]
    by_cases hi : i < w.heap.size
    · simp [hi, Nat.ne_of_gt hi]
    · have : i = w.heap.size := by simp at h2; omega
      simp [this]

/-- A change stored into the block that was made for it just now. -/
theorem wpList_store_fresh43 {ops : Array Oper} {rest : List Oper} {o : Oper} {a : Act} {w : World} {Q : Exit → Act → World → Prop} (hgd : o.guard = none) (x y : Operand) (ho : o.op = .store 43 x y)
    (cs : List Value) (z : Array Value) (hx : a.eval x = .pointer (some ⟨w.heap.size, 0, none⟩)) (hy : a.eval y = .agg cs.toArray) (hl : cs.length = 29) (hz : z.size = 29) (h1 : ∀ v ∈ cs, v.oneCell' = true)
    (h : wpList Yba.prog ops Q rest (a.put o.dst undef) (w.alloc (.cells cs.toArray 43))) : wpList Yba.prog ops Q (o :: rest) a (w.alloc (.cells z 43)) := by
  refine wpList_plain hgd fun K hK => ?_
  obtain ⟨i, hi, hs⟩ := Option.map_eq_some_iff.1 size43
  have hst := run_storeCells_at Yba.prog w.heap.size 0 43 cs 0 z (w.alloc (.cells z 43)) (heap_alloc_new w _) (by omega) h1
  unfold Oper.wp execOp
  simp only [ho, hx, hy, Instr.storeAt, Instr.sureAddr, Sem.run_bind, Sem.run_pure, Result.andThen_ok]
  have e : List.drop 29 z.toList = [] := List.drop_eq_nil_of_le (by simp; omega)
  simp [storeVar, sizeOf, typeInfo, hi, hs, Value.cells, hl, hst, setRow_last, e]
  exact hK _ _ h
end Go.Proofs.Ybulkamho
