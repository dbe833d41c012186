import Derived.Test.YbulkamjePlace
namespace Go.Proofs.Ybulkamje
open Go.RowKit

/-- A new group's cells. -/
theorem builtG (nm : ByteArray) (a : Option Addr) (n c : Nat) : ∃ cs : Array Value, Yba.prog.built 57 [(0, .string nm), (2, .slice a n c), (7, .int .u64 0)] = some cs ∧ cs.size = 43 ∧ cs[0]? = some (.string nm) ∧ cs[2]? = some (.slice a n c) := by
  have h : (Yba.prog.built 57 [(0, .string nm), (2, .slice a n c), (7, .int .u64 0)]).map (fun cs => (cs.size, cs[0]?, cs[2]?)) = some (43, some (.string nm), some (.slice a n c)) := by kernel_rfl
  obtain ⟨cs, h1, h2⟩ := Option.map_eq_some_iff.1 h
  simp only [Prod.mk.injEq] at h2
  exact ⟨cs, h1, h2.1, h2.2.1, h2.2.2⟩

theorem wpList_build57 {ops : Array Oper} {rest : List Oper} {o : Oper} {a : Act} {w : World} {Q : Exit → Act → World → Prop} (hgd : o.guard = none) (x y z : Operand) (ho : o.op = .build 57 #[(0, x), (2, y), (7, z)])
    (vx vy vz : Value) (hx : a.eval x = vx) (hy : a.eval y = vy) (hz : a.eval z = vz) (cs : Array Value) (hb : Yba.prog.built 57 [(0, vx), (2, vy), (7, vz)] = some cs)
    (h : wpList Yba.prog ops Q rest (a.put o.dst (.agg cs)) w) : wpList Yba.prog ops Q (o :: rest) a w := by
  refine wpList_plain hgd fun K hK => ?_
  have hrun := run_build (P := Yba.prog) w 57 #[(0, vx), (2, vy), (7, vz)] cs hb
  unfold Oper.wp
  simp [execOp, ho, hx, hy, hz, hrun, Result.andThen]
  exact hK _ _ h
end Go.Proofs.Ybulkamje
