import Derived.Test.YbulkamhoCMap
import Derived.Test.YbulkamhoAWalks
namespace Go.Proofs.Ybulkamho
open Go.RowKit
set_option linter.unusedSimpArgs false

theorem Yba.info28 : (Yba.prog.info? 28).map (fun i => (i.zero.map (·.cells.size), i.size, i.bytes)) = some (some 8, 8, 8) := by kernel_rfl

/-- The cells of a list of handles, each by its first byte. -/
def cells8 (l : List Int) : List Value := l.flatMap h8
theorem h8_length (y : Int) : (h8 y).length = 8 := rfl
theorem cells8_length (l : List Int) : (cells8 l).length = l.length * 8 := by
  induction l with
  | nil => rfl
  | cons c l ih => simp only [cells8, List.flatMap_cons, List.length_append] at ih ⊢; rw [ih]; simp [h8]; omega
theorem cells8_snoc (l : List Int) (y : Int) : cells8 (l ++ [y]) = cells8 l ++ h8 y := by simp [cells8]
theorem h8_one (y : Int) : ∀ u ∈ h8 y, u.oneCell' = true := by
  intro u hu
  simp only [h8, List.mem_cons, List.not_mem_nil, or_false] at hu
  rcases hu with rfl | rfl | rfl | rfl | rfl | rfl | rfl | rfl <;> rfl
theorem cells8_at (l : List Int) (t j : Nat) (ht : t < l.length) (hj : j < 8) : (cells8 l)[t * 8 + j]? = (h8 (l.getD t 0))[j]? := by
  have e : cells8 l = cells8 (l.take t) ++ (h8 (l.getD t 0) ++ cells8 (l.drop (t + 1))) := by
    have : l = l.take t ++ (l.getD t 0 :: l.drop (t + 1)) := by
      rw [List.getD_eq_getElem?_getD, List.getElem?_eq_getElem ht, Option.getD_some, ← List.drop_eq_getElem_cons ht, List.take_append_drop]
    conv => lhs; rw [this]
    simp [cells8]
  have hl : (cells8 (l.take t)).length = t * 8 := by rw [cells8_length, List.length_take]; congr 1; omega
  rw [e, List.getElem?_append_right (by omega), hl, Nat.add_sub_cancel_left, List.getElem?_append_left (by rw [h8_length]; exact hj)]

/-- A list of handles in a row of the call's own. -/
def HL (w : World) (base : Nat) (ao : Option Addr) (c : Nat) (l : List Int) : Prop := w.ownsRow base 28 8 (.slice ao l.length c) l.length (cells8 l)

/-- Bytes that came in, or lie in a row of the call's own: with an element the slice leads to them. -/
def BY (B : Nat) (w : World) (a : Option Addr) (len : Nat) (X : Nat → Int) : Prop :=
  0 < len → ∃ b off, a = some ⟨b, off, none⟩ ∧ b < B ∧ ∀ i, i < len → w.cell? ⟨b, off + i, none⟩ = some (.int .u8 (X i)) ∧ 0 ≤ X i ∧ X i ≤ 255
theorem BY.later {B : Nat} {w w' : World} {a : Option Addr} {len : Nat} {X : Nat → Int} (h : BY B w a len X) (hb : Below B w w') : BY B w' a len X := by
  intro hp
  obtain ⟨b, off, ha, hbb, hc⟩ := h hp
  exact ⟨b, off, ha, hbb, fun i hi => ⟨(hb.cell (by exact hbb)).trans (hc i hi).1, (hc i hi).2⟩⟩
theorem BY.up {B B' : Nat} {w : World} {a : Option Addr} {len : Nat} {X : Nat → Int} (h : BY B w a len X) (hB : B ≤ B') : BY B' w a len X := by
  intro hp
  obtain ⟨b, off, ha, hbb, hc⟩ := h hp
  exact ⟨b, off, ha, by omega, hc⟩

/-- The bytes' handles. -/
def m4 (X : Nat → Int) (n : Nat) : List Int := (List.range n).map fun i => X i % 4
theorem m4_succ (X : Nat → Int) (n : Nat) : m4 X (n + 1) = m4 X n ++ [X n % 4] := by simp [m4, List.range_succ]
theorem m4_length (X : Nat → Int) (n : Nat) : (m4 X n).length = n := by simp [m4]
theorem m4_getD (X : Nat → Int) (n t : Nat) (h : t < n) : (m4 X n).getD t 0 = X t % 4 := by
  simp [m4, h]

/-! ### zzs1899ch -/
set_option maxHeartbeats 400000 in
theorem handleC (x : Int) (w : World) (h0 : 0 ≤ x) (h1 : x ≤ 255) :
    Calls Yba.prog 15 #[.int .u8 x] w fun e w' => e = .returned (hv (x % 4)) ∧ w' = w.alloc (.cells #[.int .u8 (x % 4), .int .u8 0, .int .u8 0, .int .u8 0, .int .u8 0, .int .u8 0, .int .u8 0, .int .u8 0] 28) := by
  go_enter Yba.func15, Yba.ntmps15
  go_wp2
  exact bodyPost_ret (v := hv (x % 4)) (by simp [results, Yba.results15, go_sem]) rfl ⟨rfl, rfl⟩

theorem news2' (w : World) (o1 : Obj) (cs : List Value) (t : TypeId) : ∀ j u, cs[j]? = some u → ((w.alloc o1).alloc (.cells cs.toArray t)).cell? ((⟨w.heap.size + 1, 0, none⟩ : Addr).add j) = some u := by
  intro j u hj
  have e : (w.alloc o1).heap.size = w.heap.size + 1 := by simp
  have h := World.news_of_block (heap_alloc_new (w.alloc o1) (.cells cs.toArray t)) j u (by simpa using hj)
  rw [e] at h
  exact h

/-! ### zzs1899chs -/
set_option maxRecDepth 100000 in
set_option maxHeartbeats 400000 in
theorem handlesC (a : Option Addr) (len cap : Nat) (X : Nat → Int) (w : World) (hlen : len ≤ 256) (hr : BY w.heap.size w a len X) :
    Calls Yba.prog 16 #[.slice a len cap] w fun e w' => ∃ ao c, e = .returned (.slice ao len c) ∧ HL w' w.heap.size ao c (m4 X len) ∧ Below w.heap.size w w' := by
  obtain ⟨i0, hi, hz⟩ := Option.map_eq_some_iff.1 Yba.info28
  simp only [Prod.mk.injEq] at hz
  obtain ⟨hz0, hz1, hz2⟩ := hz
  obtain ⟨z, hz0, hzs⟩ := Option.map_eq_some_iff.1 hz0
  go_enter Yba.func16, Yba.ntmps16
  go_wp2_with fail
  go_loopw [3, 8] (fun v i wr => ∃ k : Nat, k ≤ len ∧ i = .int .i64 k ∧ ∃ ao c, v = .slice ao k c ∧ wr.ownsRow w.heap.size 28 8 (.slice ao k c) k (cells8 (m4 X k)) ∧ Below w.heap.size w wr) (fun _ i _ => len - (intOf i).toNat)
  case atStart => exact ⟨0, Nat.zero_le _, rfl, none, 0, rfl, World.ownsRow_nil _ _ _ _, Below.refl _ _⟩
  case round =>
    obtain ⟨k, hk, rfl, ao, c, rfl, hown, hbel⟩ := hrel
    by_cases hlt : k < len
    · obtain ⟨b, off, rfl, hbB, hc⟩ := hr (by omega)
      obtain ⟨cX, x0, x1⟩ := hc k hlt
      have cX' := (hbel.cell (p := ⟨b, off + k, none⟩) hbB).trans cX
      have hz3 := hbel.size
      clear cX hc hr
      go_wp2_with (first
        | (go_at_call 15; refine (handleC (X k) _ x0 x1).mono ?_; rintro e w' ⟨rfl, rfl⟩)
        | (at_builtin; refine wpList_append_lies _ rfl (.tmp 12) (.tmp 15) 37 rfl w.heap.size 28 i0 z 8 8 Yba.underlying37 hi hz0 hz1 hz2 hzs (by omega) (.slice ao k c) k (cells8 (m4 X k)) rfl ((hown.alloc _).alloc _) ⟨wr.heap.size + 1, 0, none⟩ 1 1 (h8 (X k % 4)) rfl rfl (news2' wr _ (h8 (X k % 4)) 28) (h8_one _) (by omega) (by unfold maxLen; omega) (by omega) (by simp; omega) (wr.heap.size + 2) (by simp) ?_; intro g cap w1 hown1 hgrow hat hlt1))
      have hb1 : Below w.heap.size w w1 := Below.grown ((hbel.alloc hz3 _).alloc (by simp; omega) _) hgrow (by simp; omega) (fun k hk => (hown.lt k hk).1)
      rw [← cells8_snoc, ← m4_succ] at hown1
      clear hgrow hat hlt1
      go_wp2
      go_roundw
      case rel => exact ⟨k + 1, by omega, by go_num, some ⟨g, 0, none⟩, cap, rfl, hown1, hb1⟩
      case measure => simp [intOf]; omega
    · obtain rfl : k = len := by omega
      go_wp2
      go_ret
      exact ⟨ao, c, rfl, by unfold HL; rw [m4_length]; exact hown, hbel⟩
end Go.Proofs.Ybulkamho
