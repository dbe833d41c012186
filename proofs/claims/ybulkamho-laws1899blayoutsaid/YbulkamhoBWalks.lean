import Derived.Test.YbulkamhoProg
import Derived.WalkKit
import Derived.WalkSpells
import Derived.WalkLawsBesides
import Derived.Laws.CopyOwn
import Derived.Laws.AppendOwnNone
namespace Go.Proofs.Ybulkamho
open Go.RowKit

theorem Yba.info5 : (Yba.prog.info? 5).map (fun i => (i.zero, i.size, i.bytes)) = some (some (.int .u8 0), 1, 1) := by kernel_rfl

/-- The four bytes of a number below 2^32, the greatest first. -/
def be4 (v : Int) : List Int := [v / 16777216, v / 65536 % 256, v / 256 % 256, v % 256]

theorem cell_lit (w : World) (cs : List Value) (t : TypeId) : ∀ j u, cs[j]? = some u → (w.alloc (.cells cs.toArray t)).cell? ((⟨w.heap.size, 0, none⟩ : Addr).add j) = some u := by
  intro j u hj
  have hl := (List.getElem?_eq_some_iff.1 hj).1
  have : (⟨w.heap.size, 0, none⟩ : Addr).add j = ⟨w.heap.size, j, none⟩ := by unfold Addr.add; split <;> simp_all
  rw [this, World.cell?_alloc_at _ _ _ _ rfl]
  simpa using hj

set_option maxHeartbeats 400000 in
theorem append32 (base : Nat) (sv : Value) (n : Nat) (xs : List Value) (v : Int) (w : World) (hv0 : 0 ≤ v) (hv1 : v < 4294967296)
    (hown : w.ownsRow base 5 1 sv n xs) (hb : base ≤ w.heap.size) (hn : n ≤ 100000) :
    Calls Yba.prog 20 #[.agg #[], sv, .int .u32 v] w fun e w' => ∃ v', e = .returned v' ∧ w'.ownsRow base 5 1 v' (n + 4) (xs ++ (be4 v).map (Value.int .u8)) ∧ Below base w w' := by
  obtain ⟨i0, hi, hz0, hz1, hz2⟩ := info_parts Yba.info5
  go_enter Yba.func20, Yba.ntmps20
  go_wp2_with (at_builtin; refine wpList_append_own _ rfl _ _ 39 rfl base 5 i0 (.int .u8 0) 1 1 Yba.underlying39 hi hz0 hz1 hz2 rfl (by decide) _ _ _ rfl ((hown.alloc _).alloc _) ⟨w.heap.size + 1, 0, none⟩ 4 4 ((be4 v).map (Value.int .u8)) rfl rfl ?c1 ?c2 ?c3 ?c4 ?c5 ?_)
  case c1 => 
    have := cell_lit (w.alloc (Obj.cells #[] 64)) ((be4 v).map (Value.int .u8)) 5
    simpa [be4] using this
  case c2 => exact ints_oneCell _ _
  case c3 => unfold maxLen; omega
  case c4 => omega
  case c5 => simp; omega
  · intro v' w1 hown' hgrow _
    go_wp2
    go_ret
    refine ⟨v', rfl, hown', ?_⟩
    refine Below.grown (((Below.refl _ _).alloc hb _).alloc ?_ _) hgrow ?_ ?_
    · simp; omega
    · simp; omega
    · intro k hk; exact (hown.lt k hk).1

/-- The eight bytes of handle i. -/
def row8 (H : Nat → Nat → Int) (i : Nat) : List Int := [H i 0, H i 1, H i 2, H i 3, H i 4, H i 5, H i 6, H i 7]
/-- The bytes of the first k handles. -/
def rows8 (H : Nat → Nat → Int) : Nat → List Int
  | 0 => []
  | k + 1 => rows8 H k ++ row8 H k
theorem rows8_length (H : Nat → Nat → Int) (k : Nat) : (rows8 H k).length = 8 * k := by
  induction k with
  | zero => rfl
  | succ k ih => simp [rows8, row8, ih]; omega

/-- What is known of a list of handles: with an element it leads to a row of cells, eight a handle, below block B. -/
def HRow (B : Nat) (w : World) (a : Option Addr) (len : Nat) (H : Nat → Nat → Int) : Prop :=
  0 < len → ∃ b off, a = some ⟨b, off, none⟩ ∧ b < B ∧ ∀ i, i < len → ∀ j, j < 8 → w.cell? ⟨b, off + i * 8 + j, none⟩ = some (.int .u8 (H i j))

theorem HRow.eight {B : Nat} {w wr : World} {b off len : Nat} {H : Nat → Nat → Int} {k : Nat}
    (hc : ∀ i, i < len → ∀ j, j < 8 → w.cell? ⟨b, off + i * 8 + j, none⟩ = some (.int .u8 (H i j))) (hk : k < len) (hb : b < B) (hbel : Below B w wr) :
    wr.cell? ⟨b, off + k * 8, none⟩ = some (.int .u8 (H k 0)) ∧ wr.cell? ⟨b, off + k * 8 + 1, none⟩ = some (.int .u8 (H k 1)) ∧
    wr.cell? ⟨b, off + k * 8 + 2, none⟩ = some (.int .u8 (H k 2)) ∧ wr.cell? ⟨b, off + k * 8 + 3, none⟩ = some (.int .u8 (H k 3)) ∧
    wr.cell? ⟨b, off + k * 8 + 4, none⟩ = some (.int .u8 (H k 4)) ∧ wr.cell? ⟨b, off + k * 8 + 5, none⟩ = some (.int .u8 (H k 5)) ∧
    wr.cell? ⟨b, off + k * 8 + 6, none⟩ = some (.int .u8 (H k 6)) ∧ wr.cell? ⟨b, off + k * 8 + 7, none⟩ = some (.int .u8 (H k 7)) := by
  have h : ∀ j, j < 8 → wr.cell? ⟨b, off + k * 8 + j, none⟩ = some (.int .u8 (H k j)) := fun j hj => (hbel.cell (by exact hb)).trans (hc k hk j hj)
  exact ⟨h 0 (by omega), h 1 (by omega), h 2 (by omega), h 3 (by omega), h 4 (by omega), h 5 (by omega), h 6 (by omega), h 7 (by omega)⟩

set_option maxHeartbeats 400000 in
theorem appendHL (base : Nat) (sv : Value) (n : Nat) (xs : List Value) (a : Option Addr) (len cap : Nat) (H : Nat → Nat → Int) (w : World) (hlen : len ≤ 1024)
    (hr : HRow base w a len H) (hown : w.ownsRow base 5 1 sv n xs) (hb : base ≤ w.heap.size) (hn : n ≤ 1024) :
    Calls Yba.prog 11 #[sv, .slice a len cap] w fun e w' => ∃ v', e = .returned v' ∧ w'.ownsRow base 5 1 v' (n + 4 + 8 * len) (xs ++ (be4 len).map (Value.int .u8) ++ (rows8 H len).map (Value.int .u8)) ∧ Below base w w' := by
  obtain ⟨i0, hi, hz0, hz1, hz2⟩ := info_parts Yba.info5
  go_enter Yba.func11, Yba.ntmps11
  go_wp2_with (go_at_call 20; refine (append32 base sv n xs _ _ (by omega) (by omega) hown hb (by omega)).mono ?_; rintro e w1 ⟨v1, rfl, hown1, hb1⟩)
  go_loopw [0, 15] (fun v i wr => ∃ k : Nat, k ≤ len ∧ i = .int .i64 k ∧ wr.ownsRow base 5 1 v (n + 4 + 8 * k) (xs ++ (be4 len).map (Value.int .u8) ++ (rows8 H k).map (Value.int .u8)) ∧ Below base w wr) (fun _ i _ => len - (intOf i).toNat)
  case atStart => exact ⟨0, Nat.zero_le _, rfl, by simpa [rows8] using hown1, hb1⟩
  case round =>
    obtain ⟨k, hk, rfl, hownk, hbk⟩ := hrel
    by_cases hlt : k < len
    · obtain ⟨b, off, rfl, hbB, hc⟩ := hr (by omega)
      obtain ⟨c0, c1, c2, c3, c4, c5, c6, c7⟩ := HRow.eight hc hlt hbB hbk
      have hz := hbk.size
      go_wp2_with (at_builtin; refine wpList_append_own _ rfl _ _ 39 rfl base 5 i0 (.int .u8 0) 1 1 Yba.underlying39 hi hz0 hz1 hz2 rfl (by decide) _ _ _ rfl (hownk.alloc _) ⟨wr.heap.size, 0, none⟩ 8 8 ((row8 H k).map (Value.int .u8)) rfl rfl ?d1 ?d2 ?d3 ?d4 ?d5 ?_)
      case d1 => exact cell_lit wr ((row8 H k).map (Value.int .u8)) 28
      case d2 => exact ints_oneCell _ _
      case d3 => unfold maxLen; omega
      case d4 => omega
      case d5 => simp; omega
      intro v' w2 hown' hgrow _
      have hb2 : Below base w w2 := Below.grown (hbk.alloc (by omega) _) hgrow (by simp; omega) (fun k hk => (hownk.lt k hk).1)
      clear c0 c1 c2 c3 c4 c5 c6 c7
      go_wp2
      go_roundw
      case rel => exact ⟨k + 1, by omega, by go_num, by simpa [rows8, Nat.mul_add, Nat.add_assoc] using hown', hb2⟩
      case measure => simp [intOf]; omega
    · obtain rfl : k = len := by omega
      go_wp2
      go_ret
      exact ⟨_, rfl, hownk, hbk⟩
end Go.Proofs.Ybulkamho
