import Derived.Test.YbulkamjeBuild
import Derived.Test.YbulkamjeCounts
namespace Go.Proofs.Ybulkamje
open Go.RowKit
set_option linter.unusedSimpArgs false

set_option maxRecDepth 100000 in
set_option maxHeartbeats 1600000 in
theorem countsE (a0 a1 a2 a3 : Option Addr) (l0 l1 l2 l3 c0 c1 c2 c3 : Nat) (w : World) (h : 256 < l0 ∨ 1024 < l1 ∨ 1024 < l2 ∨ 1024 < l3) :
    Calls Yba.prog 3 #[.slice a0 l0 c0, .slice a1 l1 c1, .slice a2 l2 c2, .slice a3 l3 c3] w fun e w' => e = .returned (.bool true) ∧ Below w.heap.size w w' := by
  by_cases h0 : 256 < l0
  · have g0 : (256 : Int) < (l0 : Int) := by omega
    clear h h0
    go_enter Yba.func3, Yba.ntmps3
    go_wp2
    go_ret
    exact ⟨rfl, Below.refl _ _⟩
  · have g0 : ¬ ((256 : Int) < (l0 : Int)) := by omega
    by_cases h1 : 1024 < l1
    · have g1 : (1024 : Int) < (l1 : Int) := by omega
      clear h h0 h1
      go_enter Yba.func3, Yba.ntmps3
      go_wp2
      go_ret
      exact ⟨rfl, Below.refl _ _⟩
    · have g1 : ¬ ((1024 : Int) < (l1 : Int)) := by omega
      by_cases h2 : 1024 < l2
      · have g2 : (1024 : Int) < (l2 : Int) := by omega
        clear h h0 h1 h2
        go_enter Yba.func3, Yba.ntmps3
        go_wp2
        go_ret
        exact ⟨rfl, Below.refl _ _⟩
      · have g2 : ¬ ((1024 : Int) < (l2 : Int)) := by omega
        have g3 : (1024 : Int) < (l3 : Int) := by omega
        clear h h0 h1 h2
        go_enter Yba.func3, Yba.ntmps3
        go_wp2
        go_ret
        exact ⟨rfl, Below.refl _ _⟩

theorem countsAll (a0 a1 a2 a3 : Option Addr) (l0 l1 l2 l3 c0 c1 c2 c3 : Nat) (X0 X1 X2 X3 : Nat → Int) (w : World) (b0 : BY w.heap.size w a0 l0 X0) (b1 : BY w.heap.size w a1 l1 X1) (b2 : BY w.heap.size w a2 l2 X2) (b3 : BY w.heap.size w a3 l3 X3) :
    Calls Yba.prog 3 #[.slice a0 l0 c0, .slice a1 l1 c1, .slice a2 l2 c2, .slice a3 l3 c3] w fun e w' => e = .returned (.bool true) ∧ Below w.heap.size w w' := by
  by_cases h : 256 < l0 ∨ 1024 < l1 ∨ 1024 < l2 ∨ 1024 < l3
  · exact countsE a0 a1 a2 a3 l0 l1 l2 l3 c0 c1 c2 c3 w h
  · exact countsC a0 a1 a2 a3 l0 l1 l2 l3 c0 c1 c2 c3 X1 X2 X3 w (buildC a0 l0 c0 X0 w (by omega) b0) (by omega) (by omega) (by omega) (by omega) b1 b2 b3
end Go.Proofs.Ybulkamje
