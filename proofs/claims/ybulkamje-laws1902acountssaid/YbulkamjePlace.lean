import Derived.Test.YbulkamjeValues
import Derived.Test.YbulkamjeSearch
import Derived.Test.YbulkamjeRetained
namespace Go.Proofs.Ybulkamje
open Go.RowKit Go.Maps Go.Sort Go.Shelf
set_option linter.unusedSimpArgs false

/-- A member's name, and the first n of them. -/
def mem (j : Nat) : ByteArray := ⟨#[UInt8.ofNat (97 + j)]⟩
def memL (n : Nat) : List (List UInt8) := (List.range n).map fun j => [UInt8.ofNat (97 + j)]
theorem memL_length (n : Nat) : (memL n).length = n := by simp [memL]
theorem memL_sorted (n : Nat) (h : n ≤ 4) : (memL n).mergeSort (fun x y => decide (x ≤ y)) = memL n := by
  refine List.mergeSort_of_pairwise ?_
  have : n = 0 ∨ n = 1 ∨ n = 2 ∨ n = 3 ∨ n = 4 := by omega
  rcases this with rfl | rfl | rfl | rfl | rfl <;> decide +kernel
theorem memL_at (n j : Nat) (h : j < n) : encStr ((memL n).getD j []) = .string (mem j) := by
  simp [memL, h, encStr, mem]

/-- The members beyond the last are told as a text above all. -/
def memX (j : Nat) : ByteArray := if j < 4 then mem j else ⟨#[255]⟩
theorem memX_not (t : Nat) : Op.bytesLess (memX t).toList (ByteArray.toList ⟨#[97]⟩) = false := by
  unfold memX
  split
  · have : t = 0 ∨ t = 1 ∨ t = 2 ∨ t = 3 := by omega
    rcases this with rfl | rfl | rfl | rfl <;> decide +kernel
  · decide +kernel

set_option maxRecDepth 100000 in
set_option maxHeartbeats 400000 in
/-- place, at this member's own name. -/
theorem placeC (G ms cm n : Nat) (w : World) (hn1 : 1 ≤ n) (hn4 : n ≤ 4) (c2 : w.cell? ⟨G, 2, none⟩ = some (.slice (some ⟨ms, 0, none⟩) n cm)) (hm : ∀ j, j < n → w.cell? ⟨ms, j, none⟩ = some (.string (mem j))) :
    Calls Yba.prog 35 #[.pointer (some ⟨G, 0, none⟩), .string ⟨#[97]⟩] w fun e w' => e = .returned (.tuple #[.int .i64 0, .bool true]) ∧ ∃ q, w' = w.drewN q := by
  have H := searchS ms 0 n cm memX ⟨#[97]⟩ w (by omega) (fun j hj => by rw [Nat.zero_add, hm j hj, memX, if_pos (by omega)])
  have e : Lib.bsGo (fun t => Op.bytesLess (memX t).toList (ByteArray.toList ⟨#[97]⟩)) n 0 n = 0 := Lib.bsGo_spec _ 0 (fun t h => absurd h (by omega)) (fun t _ => memX_not t) n 0 n (by omega) (Nat.le_refl _) (Nat.zero_le _)
  rw [e] at H
  have e2 : decide (0 < n ∧ memX 0 = ⟨#[97]⟩) = true := by
    have : memX 0 = ⟨#[97]⟩ := by rfl
    simp [this]; omega
  rw [e2] at H
  clear e e2 hm
  go_enter Yba.func35, Yba.ntmps35
  go_wp2_with (go_at_call 32; refine H.mono ?_; rintro e w1 ⟨rfl, q, rfl⟩)
  go_ret2
  exact ⟨rfl, q, rfl⟩
end Go.Proofs.Ybulkamje
