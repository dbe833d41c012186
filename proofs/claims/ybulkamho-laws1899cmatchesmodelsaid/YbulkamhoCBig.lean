import Derived.Test.YbulkamhoCBuild
namespace Go.Proofs.Ybulkamho
open Go.RowKit
set_option linter.unusedSimpArgs false

/-- A plain change by value. -/
abbrev Raw.val (r : Raw) : Value := .agg #[.int .u8 r.s, .int .u32 r.k, .slice r.aA r.lA r.cA, .slice r.aR r.lR r.cR]
def Small (len : Nat) (P : Nat → Raw) (c : Raw) : Prop := len ≤ 256 ∧ c.lA ≤ 256 ∧ c.lR ≤ 256 ∧ ∀ i, i < len → (P i).lA ≤ 256 ∧ (P i).lR ≤ 256

set_option maxRecDepth 100000 in
set_option maxHeartbeats 1600000 in
theorem bigC (a : Option Addr) (len cp : Nat) (P : Nat → Raw) (s k : Int) (aA : Option Addr) (lA cA : Nat) (XA : Nat → Int) (aR : Option Addr) (lR cR : Nat) (XR : Nat → Int) (w : World) (hr : PRow w.heap.size w a len P) (hml : len ≤ maxLen) :
    Calls Yba.prog 12 #[.slice a len cp, .agg #[.int .u8 s, .int .u32 k, .slice aA lA cA, .slice aR lR cR]] w fun e w' => Below w.heap.size w w' ∧ ∃ bb : Bool, e = .returned (.bool bb) ∧ (bb = false → Small len P ⟨s, k, aA, lA, cA, XA, aR, lR, cR, XR⟩) := by
  unfold maxLen at hml
  by_cases h1 : len ≤ 256
  · have d1 : decide ((256 : Int) < (len : Int)) = false := by simp; omega
    by_cases h2 : lA ≤ 256
    · have d2 : decide ((256 : Int) < (lA : Int)) = false := by simp; omega
      by_cases h3 : lR ≤ 256
      · have d3 : decide ((256 : Int) < (lR : Int)) = false := by simp; omega
        go_enter Yba.func12, Yba.ntmps12
        go_wp2_with fail
        go_loopw [24] (fun i wr => ∃ t : Nat, t ≤ len ∧ i = .int .i64 t ∧ Below w.heap.size w wr ∧ ∀ j, j < t → (P j).lA ≤ 256 ∧ (P j).lR ≤ 256) (fun i _ => len - (intOf i).toNat)
        case atStart => exact ⟨0, Nat.zero_le _, rfl, (Below.refl _ _).alloc (Nat.le_refl _) _, fun j hj => absurd hj (by omega)⟩
        case round =>
          obtain ⟨t, ht, rfl, hbel, hsm⟩ := hrel
          have HSM : Hid (∀ j, j < t → (P j).lA ≤ 256 ∧ (P j).lR ≤ 256) := hsm
          have hz := hbel.size
          clear hsm
          by_cases hlt : t < len
          · obtain ⟨b, off, rfl, hbB, hc⟩ := hr (by omega)
            obtain ⟨c0, c1, c2, c3⟩ := ((hc t hlt).1).later hbel hbB
            clear hc hr
            obtain ⟨r, hrr⟩ : ∃ r, r = P t := ⟨_, rfl⟩
            rw [← hrr] at c0 c1 c2 c3
            have HRR : Hid (r = P t) := hrr
            clear hrr
            by_cases g1 : r.lA ≤ 256
            · have e1 : decide ((256 : Int) < (r.lA : Int)) = false := by simp; omega
              by_cases g2 : r.lR ≤ 256
              · have e2 : decide ((256 : Int) < (r.lR : Int)) = false := by simp; omega
                have HSM' : Hid (∀ j, j < t + 1 → (P j).lA ≤ 256 ∧ (P j).lR ≤ 256) := by
                  intro j hj
                  by_cases hjt : j = t
                  · rw [hjt, ← HRR.out]; exact ⟨g1, g2⟩
                  · exact HSM.out j (by omega)
                go_wp2
                go_roundw
                case rel => exact ⟨t + 1, by omega, by go_num, hbel.alloc hz _, HSM'.out⟩
                case measure => simp [intOf]; omega
              · have e2 : (256 : Int) < (r.lR : Int) := by omega
                clear g2
                go_wp2
                go_ret
                exact ⟨hbel.alloc hz _, true, rfl, fun h => by cases h⟩
            · have e1 : (256 : Int) < (r.lA : Int) := by omega
              clear g1
              go_wp2
              go_ret
              exact ⟨hbel.alloc hz _, true, rfl, fun h => by cases h⟩
          · obtain rfl : t = len := by omega
            go_wp2
            go_ret
            exact ⟨hbel, false, rfl, fun _ => ⟨h1, h2, h3, HSM.out⟩⟩
      · have d3 : (256 : Int) < (lR : Int) := by omega
        clear h3
        go_enter Yba.func12, Yba.ntmps12
        go_wp2
        go_ret
        exact ⟨(Below.refl _ _).alloc (Nat.le_refl _) _, true, rfl, fun h => by cases h⟩
    · have d2 : (256 : Int) < (lA : Int) := by omega
      clear h2
      go_enter Yba.func12, Yba.ntmps12
      go_wp2
      go_ret
      exact ⟨(Below.refl _ _).alloc (Nat.le_refl _) _, true, rfl, fun h => by cases h⟩
  · have d1 : (256 : Int) < (len : Int) := by omega
    clear h1
    go_enter Yba.func12, Yba.ntmps12
    go_wp2
    go_ret
    exact ⟨(Below.refl _ _).alloc (Nat.le_refl _) _, true, rfl, fun h => by cases h⟩
end Go.Proofs.Ybulkamho
