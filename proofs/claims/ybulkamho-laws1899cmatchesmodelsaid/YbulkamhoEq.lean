import Derived.Test.YbulkamhoProg
import Derived.WalkKit
import Derived.WalkSpells
import Derived.WalkLawsBesides
namespace Go.Proofs.Ybulkamho
open Go.RowKit

/-- The eight cells of a handle whose first byte is x, the rest nought. -/
def h8 (x : Int) : List Value := [.int .u8 x, .int .u8 0, .int .u8 0, .int .u8 0, .int .u8 0, .int .u8 0, .int .u8 0, .int .u8 0]

theorem eqGuard28 : Yba.prog.eqGuardType Yba.prog.depth 28 = false := by kernel_rfl
theorem infoSize5 : (Yba.prog.info? 5).map (·.size) = some 1 := by kernel_rfl

theorem equal28 (d : Nat) (x y : Int) (w : World) :
    (Op.equalIn (d + 2) 28 (.agg #[.int .u8 x, .int .u8 0, .int .u8 0, .int .u8 0, .int .u8 0, .int .u8 0, .int .u8 0, .int .u8 0]) (.agg #[.int .u8 y, .int .u8 0, .int .u8 0, .int .u8 0, .int .u8 0, .int .u8 0, .int .u8 0, .int .u8 0])).run Yba.prog w = .ok (x == y) w := by
  obtain ⟨i, hi, hs⟩ := Option.map_eq_some_iff.1 infoSize5
  rw [Op.equalIn]
  simp only [Sem.run_bind, run_underlying Yba.underlying28, Result.andThen_ok]
  have e : List.range' 0 8 = [0, 1, 2, 3, 4, 5, 6, 7] := rfl
  have h5 := fun w a b => run_equalIn_int (P := Yba.prog) w d 5 .u8 .u8 a b Yba.underlying5
  by_cases hxy : x = y
  · simp [sizeOf, typeInfo, hi, hs, part, e, h5, hxy]
  · simp [sizeOf, typeInfo, hi, hs, part, e, h5, hxy]
end Go.Proofs.Ybulkamho
