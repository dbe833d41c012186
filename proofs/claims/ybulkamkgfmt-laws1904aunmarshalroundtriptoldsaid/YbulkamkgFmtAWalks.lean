import Derived.Test.YbulkamkgFmtFmt
import Derived.WalkKit
import Derived.WalkSpells
namespace Go.Proofs.YbulkamkgFmt
open Go.RowKit Go.Extern.Stop Go.Stop Go.Extern

/-- A text that names no escaping. -/
structure Odd (s : ByteArray) : Prop where
  a : s.toList.isEmpty = false
  a' : ¬ s.toList = []
  b : (s.toList == [104, 116, 109, 108]) = false
  c : (s.toList == [110, 111, 110, 101]) = false
theorem bytes_of {s : ByteArray} {l : List UInt8} (h : s.toList = l) : s = ⟨l.toArray⟩ := by
  rw [ByteArray.toList_eq] at h
  obtain ⟨⟨d⟩⟩ := s
  simp at h
  rw [h]
/-- The four kinds of text. -/
theorem kinds (s : ByteArray) : s = ⟨#[]⟩ ∨ s = ⟨#[104, 116, 109, 108]⟩ ∨ s = ⟨#[110, 111, 110, 101]⟩ ∨ Odd s := by
  by_cases h0 : s.toList = []
  · exact Or.inl (bytes_of h0)
  by_cases h1 : s.toList = [104, 116, 109, 108]
  · exact Or.inr (Or.inl (bytes_of h1))
  by_cases h2 : s.toList = [110, 111, 110, 101]
  · exact Or.inr (Or.inr (Or.inl (bytes_of h2)))
  exact Or.inr (Or.inr (Or.inr ⟨by simpa using h0, h0, by simpa using h1, by simpa using h2⟩))

set_option maxHeartbeats 400000 in
theorem expect_empty (w : World) : Calls Ybaf.prog 5 #[.string ⟨#[]⟩] w fun e w' => e = .returned (.tuple #[.bool true, .bool true]) ∧ w' = w := by
  go_enter Ybaf.func5, Ybaf.ntmps5
  go_wp2
  go_ret2
  exact ⟨rfl, rfl⟩
set_option maxHeartbeats 400000 in
theorem expect_html (w : World) : Calls Ybaf.prog 5 #[.string ⟨#[104, 116, 109, 108]⟩] w fun e w' => e = .returned (.tuple #[.bool true, .bool true]) ∧ w' = w := by
  go_enter Ybaf.func5, Ybaf.ntmps5
  go_wp2
  go_ret2
  exact ⟨rfl, rfl⟩
set_option maxHeartbeats 400000 in
theorem expect_none (w : World) : Calls Ybaf.prog 5 #[.string ⟨#[110, 111, 110, 101]⟩] w fun e w' => e = .returned (.tuple #[.bool false, .bool true]) ∧ w' = w := by
  go_enter Ybaf.func5, Ybaf.ntmps5
  go_wp2
  go_ret2
  exact ⟨rfl, rfl⟩
set_option maxHeartbeats 400000 in
theorem expect_odd (s : ByteArray) (w : World) (h : Odd s) : Calls Ybaf.prog 5 #[.string s] w fun e w' => e = .returned (.tuple #[.bool false, .bool false]) ∧ w' = w := by
  obtain ⟨a, a', b, c⟩ := h
  go_enter Ybaf.func5, Ybaf.ntmps5
  go_wp2
  go_ret2
  exact ⟨rfl, rfl⟩

set_option maxHeartbeats 400000 in
theorem esc_empty (w : World) : Calls Ybaf.prog 6 #[.string ⟨#[]⟩] w fun e w' => e = .returned (.tuple #[.bool true, .nilIface]) ∧ w' = w := by
  go_enter Ybaf.func6, Ybaf.ntmps6
  go_wp2
  go_ret2
  exact ⟨rfl, rfl⟩
set_option maxHeartbeats 400000 in
theorem esc_html (w : World) : Calls Ybaf.prog 6 #[.string ⟨#[104, 116, 109, 108]⟩] w fun e w' => e = .returned (.tuple #[.bool true, .nilIface]) ∧ w' = w := by
  go_enter Ybaf.func6, Ybaf.ntmps6
  go_wp2
  go_ret2
  exact ⟨rfl, rfl⟩
set_option maxHeartbeats 400000 in
theorem esc_none (w : World) : Calls Ybaf.prog 6 #[.string ⟨#[110, 111, 110, 101]⟩] w fun e w' => e = .returned (.tuple #[.bool false, .nilIface]) ∧ w' = w := by
  go_enter Ybaf.func6, Ybaf.ntmps6
  go_wp2
  go_ret2
  exact ⟨rfl, rfl⟩

/-- fmt.Errorf over the one format and its three operands. -/
theorem errorfA (F : Interp) (a : Nat) (s : ByteArray) (w : World) (hF : F.answers w.tape)
    (c0 : w.cell? ⟨a, 0, none⟩ = some (.iface 9 (.string s))) (c1 : w.cell? ⟨a, 1, none⟩ = some (.iface 27 (.string ⟨#[104, 116, 109, 108]⟩))) (c2 : w.cell? ⟨a, 2, none⟩ = some (.iface 27 (.string ⟨#[110, 111, 110, 101]⟩))) :
    Calls Ybaf.prog 9 #[.string ⟨#[117, 110, 107, 110, 111, 119, 110, 32, 101, 115, 99, 97, 112, 101, 32, 37, 113, 58, 32, 119, 97, 110, 116, 32, 37, 113, 32, 111, 114, 32, 37, 113]⟩, .slice (some ⟨a, 0, none⟩) 3 3] w fun e w' => ∃ p, e = .returned (.iface 39 (.pointer (some p))) ∧ Below w.heap.size w w' := by
  have hF' : ∀ i name reading k range, w.tape i (.extern (word name reading k) range) = F name reading k := hF
  go_enter Ybaf.func9, Ybaf.ntmps9
  go_wp2
  go_ret
  exact ⟨_, rfl, ((Below.refl _ _).alloc (Nat.le_refl _) _).drew⟩

set_option maxHeartbeats 400000 in
theorem esc_odd (F : Interp) (s : ByteArray) (w : World) (hF : F.answers w.tape) (h : Odd s) : Calls Ybaf.prog 6 #[.string s] w fun e w' => ∃ p, e = .returned (.tuple #[.bool false, .iface 39 (.pointer (some p))]) ∧ Below w.heap.size w w' := by
  obtain ⟨a, a', b, c⟩ := h
  go_enter Ybaf.func6, Ybaf.ntmps6
  go_wp2_with (go_at_call 9; refine (errorfA F w.heap.size s _ (by exact hF) (by go_simp) (by go_simp) (by go_simp)).mono ?_; rintro e w' ⟨p, rfl, hb⟩)
  go_ret2
  exact ⟨_, rfl, ((Below.refl _ w).alloc (Nat.le_refl _) _).trans (hb.mono (by simp))⟩

/-! ### The table's law -/
set_option maxHeartbeats 400000 in
theorem table (F : Interp) (s : ByteArray) (w : World) (hF : F.answers w.tape) : Calls Ybaf.prog 3 #[.string s] w fun e w' => e = .returned (.bool true) ∧ Below w.heap.size w w' := by
  rcases kinds s with rfl | rfl | rfl | h
  · go_enter Ybaf.func3, Ybaf.ntmps3
    go_wp2_with (first | (go_at_call 5; refine (expect_empty _).mono ?_; rintro e w' ⟨rfl, rfl⟩) | (go_at_call 6; refine (esc_empty _).mono ?_; rintro e w' ⟨rfl, rfl⟩))
    go_ret
    exact ⟨rfl, Below.refl _ _⟩
  · go_enter Ybaf.func3, Ybaf.ntmps3
    go_wp2_with (first | (go_at_call 5; refine (expect_html _).mono ?_; rintro e w' ⟨rfl, rfl⟩) | (go_at_call 6; refine (esc_html _).mono ?_; rintro e w' ⟨rfl, rfl⟩))
    go_ret
    exact ⟨rfl, Below.refl _ _⟩
  · go_enter Ybaf.func3, Ybaf.ntmps3
    go_wp2_with (first | (go_at_call 5; refine (expect_none _).mono ?_; rintro e w' ⟨rfl, rfl⟩) | (go_at_call 6; refine (esc_none _).mono ?_; rintro e w' ⟨rfl, rfl⟩))
    go_ret
    exact ⟨rfl, Below.refl _ _⟩
  · go_enter Ybaf.func3, Ybaf.ntmps3
    go_wp2_with (first | (go_at_call 5; refine (expect_odd s _ h).mono ?_; rintro e w' ⟨rfl, hw⟩; rw [hw]; clear hw w') | (go_at_call 6; refine (esc_odd F s _ hF h).mono ?_; rintro e w1 ⟨p, rfl, hb⟩))
    go_ret
    exact ⟨rfl, hb⟩
end Go.Proofs.YbulkamkgFmt
