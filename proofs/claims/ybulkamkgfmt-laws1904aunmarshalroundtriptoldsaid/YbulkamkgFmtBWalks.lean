import Derived.Test.YbulkamkgFmtAWalks
import Derived.Lib.ConvBytes
import Derived.Lib.SlBytesRow
namespace Go.Proofs.YbulkamkgFmt
open Go.RowKit Go.Extern.Stop Go.Stop Go.Extern

/-- '[]byte(s)': a row of the call's own that holds the bytes. -/
theorem conv (src : TypeId) (hs : Ybaf.prog.underlying src = some .string) (s : ByteArray) (w : World) :
    ∃ cap w1, (convert src 31 (.string s)).run Ybaf.prog w = .ok (.slice (some ⟨w.heap.size, 0, none⟩) s.size cap) w1 ∧ Below w.heap.size w w1 ∧ w.heap.size < w1.heap.size ∧ Lib.Bytes w1 w.heap.size 0 s := by
  refine ⟨_, _, Lib.run_convert_string_bytes w src 31 5 s hs Ybaf.underlying31 Ybaf.underlying5, ?_, ?_, ?_⟩
  · exact ⟨rfl, rfl, rfl, by rw [Lib.bytesWorld_size]; omega, fun k hk => Lib.bytesWorld_at_old w 5 s k hk⟩
  · rw [Lib.bytesWorld_size]; omega
  · intro i hi
    rw [Nat.zero_add, Lib.bytesWorld_cell w 5 s i hi]
    congr 3
    simp [hi]
    rfl

theorem expect_ok (s : ByteArray) (w : World) (h : s = ⟨#[]⟩ ∨ s = ⟨#[104, 116, 109, 108]⟩ ∨ s = ⟨#[110, 111, 110, 101]⟩) : Calls Ybaf.prog 5 #[.string s] w fun e w' => ∃ b, e = .returned (.tuple #[.bool b, .bool true]) ∧ w' = w := by
  rcases h with rfl | rfl | rfl
  · exact (expect_empty w).mono fun e w' h => ⟨_, h⟩
  · exact (expect_html w).mono fun e w' h => ⟨_, h⟩
  · exact (expect_none w).mono fun e w' h => ⟨_, h⟩
theorem esc_ok (s : ByteArray) (w : World) (h : s = ⟨#[]⟩ ∨ s = ⟨#[104, 116, 109, 108]⟩ ∨ s = ⟨#[110, 111, 110, 101]⟩) : Calls Ybaf.prog 6 #[.string s] w fun e w' => ∃ b, e = .returned (.tuple #[.bool b, .nilIface]) ∧ w' = w := by
  rcases h with rfl | rfl | rfl
  · exact (esc_empty w).mono fun e w' h => ⟨_, h⟩
  · exact (esc_html w).mono fun e w' h => ⟨_, h⟩
  · exact (esc_none w).mono fun e w' h => ⟨_, h⟩

set_option maxHeartbeats 400000 in
theorem marshal (s : ByteArray) (w : World) : Calls Ybaf.prog 8 #[.string s] w fun e w' => ∃ cap, e = .returned (.tuple #[.slice (some ⟨w.heap.size, 0, none⟩) s.size cap, .nilIface]) ∧ Below w.heap.size w w' ∧ Lib.Bytes w' w.heap.size 0 s := by
  obtain ⟨cap, w1, hc, hb, _, hby⟩ := conv 27 Ybaf.underlying27 s w
  go_enter Ybaf.func8, Ybaf.ntmps8
  go_wp2
  go_ret2
  exact ⟨cap, rfl, hb, hby⟩
set_option maxHeartbeats 400000 in
theorem unm_ok (E a cap : Nat) (s old : ByteArray) (w : World) (h : s = ⟨#[]⟩ ∨ s = ⟨#[104, 116, 109, 108]⟩ ∨ s = ⟨#[110, 111, 110, 101]⟩) (hby : Lib.Bytes w a 0 s) (hc : w.cell? ⟨E, 0, none⟩ = some (.string old)) (hf : w.frozen? ⟨E, 0, none⟩ = false) :
    Calls Ybaf.prog 7 #[.pointer (some ⟨E, 0, none⟩), .slice (some ⟨a, 0, none⟩) s.size cap] w fun e w' => e = .returned .nilIface ∧ w' = w.setCell ⟨E, 0, none⟩ (.string s) := by
  have hback := Lib.run_convert_whole (P := Ybaf.prog) w 31 5 27 Ybaf.underlying31 Ybaf.underlying5 Ybaf.underlying27 a 0 s hby cap
  clear hby
  go_enter Ybaf.func7, Ybaf.ntmps7
  go_wp2_with (go_at_call 6; refine (esc_ok s _ h).mono ?_; rintro e w' ⟨b, rfl, hw⟩; rw [hw]; clear hw w')
  go_ret
  exact ⟨rfl, rfl⟩
set_option maxHeartbeats 400000 in
theorem unm_odd (F : Interp) (E a cap : Nat) (s : ByteArray) (w : World) (hF : F.answers w.tape) (h : Odd s) (hby : Lib.Bytes w a 0 s) :
    Calls Ybaf.prog 7 #[.pointer (some ⟨E, 0, none⟩), .slice (some ⟨a, 0, none⟩) s.size cap] w fun e w' => ∃ p, e = .returned (.iface 39 (.pointer (some p))) ∧ Below w.heap.size w w' := by
  have hback := Lib.run_convert_whole (P := Ybaf.prog) w 31 5 27 Ybaf.underlying31 Ybaf.underlying5 Ybaf.underlying27 a 0 s hby cap
  clear hby
  go_enter Ybaf.func7, Ybaf.ntmps7
  go_wp2_with (go_at_call 6; refine (esc_odd F s _ hF h).mono ?_; rintro e w' ⟨p, rfl, hb⟩)
  go_ret
  exact ⟨p, rfl, hb⟩

/-! ### The round trip's law -/
set_option maxHeartbeats 800000 in
theorem trip_ok (s : ByteArray) (w : World) (h : s = ⟨#[]⟩ ∨ s = ⟨#[104, 116, 109, 108]⟩ ∨ s = ⟨#[110, 111, 110, 101]⟩) : Calls Ybaf.prog 4 #[.string s] w fun e w' => e = .returned (.bool true) ∧ Below w.heap.size w w' := by
  obtain ⟨cap, w1, hc, hb, hlt, hby⟩ := conv 9 Ybaf.underlying9 s (w.alloc (.cells #[.string ⟨#[122, 122, 45, 109, 97, 114, 107, 101, 114]⟩] 27))
  have hz : (w.alloc (.cells #[.string ⟨#[122, 122, 45, 109, 97, 114, 107, 101, 114]⟩] 27)).heap.size = w.heap.size + 1 := by simp
  rw [hz] at hc hb hlt hby
  have hblk : w1.heap[w.heap.size]? = some (.cells #[.string ⟨#[122, 122, 45, 109, 97, 114, 107, 101, 114]⟩] 27 (0, 0)) := (hb.block _ (Nat.lt_succ_self _)).trans (heap_alloc_new _ _)
  have c1 : w1.cell? ⟨w.heap.size, 0, none⟩ = some (.string ⟨#[122, 122, 45, 109, 97, 114, 107, 101, 114]⟩) := cell_of_row w1 w.heap.size 0 _ 27 (0, 0) hblk
  have f1 : w1.frozen? ⟨w.heap.size, 0, none⟩ = false := frozen_of_row w1 w.heap.size 0 _ 27 hblk
  have hB1 : Below w.heap.size w w1 := ((Below.refl _ w).alloc (Nat.le_refl _) _).trans (hb.mono (Nat.le_succ _))
  have HU := unm_ok w.heap.size (w.heap.size + 1) cap s _ w1 h hby c1 f1
  obtain ⟨W, hW⟩ : ∃ W, W = w1.setCell ⟨w.heap.size, 0, none⟩ (.string s) := ⟨_, rfl⟩
  rw [← hW] at HU
  have cW : W.cell? ⟨w.heap.size, 0, none⟩ = some (.string s) := by rw [hW]; exact World.cell?_setCell_same _ _ _ c1
  have hBW : Below w.heap.size w W := by rw [hW]; exact hB1.setCell (Nat.le_refl _) _
  have hss : (s.toList == s.toList) = true := by simp
  clear hW c1 f1 hblk hby
  go_enter Ybaf.func4, Ybaf.ntmps4
  go_wp2_with (first
    | (go_at_call 5; refine (expect_ok s _ h).mono ?_; rintro e w' ⟨b, rfl, hw⟩; rw [hw]; clear hw w')
    | (go_at_call 7; refine HU.mono ?_; rintro e w' ⟨rfl, hw⟩; rw [hw]; clear hw w')
    | (go_at_call 8; refine (marshal s W).mono ?_; rintro e w2 ⟨cap2, rfl, hb2, hby2⟩; have hback := Lib.run_convert_whole (P := Ybaf.prog) w2 31 5 9 Ybaf.underlying31 Ybaf.underlying5 Ybaf.underlying9 W.heap.size 0 s hby2 cap2; clear hby2))
  go_ret
  exact ⟨rfl, hBW.trans (hb2.mono hBW.size)⟩
set_option maxHeartbeats 800000 in
theorem trip_odd (F : Interp) (s : ByteArray) (w : World) (hF : F.answers w.tape) (h : Odd s) : Calls Ybaf.prog 4 #[.string s] w fun e w' => e = .returned (.bool true) ∧ Below w.heap.size w w' := by
  obtain ⟨cap, w1, hc, hb, hlt, hby⟩ := conv 9 Ybaf.underlying9 s (w.alloc (.cells #[.string ⟨#[122, 122, 45, 109, 97, 114, 107, 101, 114]⟩] 27))
  have hz : (w.alloc (.cells #[.string ⟨#[122, 122, 45, 109, 97, 114, 107, 101, 114]⟩] 27)).heap.size = w.heap.size + 1 := by simp
  rw [hz] at hc hb hlt hby
  have hblk : w1.heap[w.heap.size]? = some (.cells #[.string ⟨#[122, 122, 45, 109, 97, 114, 107, 101, 114]⟩] 27 (0, 0)) := (hb.block _ (Nat.lt_succ_self _)).trans (heap_alloc_new _ _)
  have hB1 : Below w.heap.size w w1 := ((Below.refl _ w).alloc (Nat.le_refl _) _).trans (hb.mono (Nat.le_succ _))
  have hF1 : F.answers w1.tape := by rw [hB1.tape]; exact hF
  have HU := unm_odd F w.heap.size (w.heap.size + 1) cap s w1 hF1 h hby
  clear hby
  go_enter Ybaf.func4, Ybaf.ntmps4
  go_wp2_with (first
    | (go_at_call 5; refine (expect_odd s _ h).mono ?_; rintro e w' ⟨rfl, hw⟩; rw [hw]; clear hw w')
    | (go_at_call 7; refine HU.mono ?_; rintro e w2 ⟨p, rfl, hb2⟩; have c2 : w2.cell? ⟨w.heap.size, 0, none⟩ = some (.string ⟨#[122, 122, 45, 109, 97, 114, 107, 101, 114]⟩) := (hb2.cell (by exact Nat.lt_trans (Nat.lt_succ_self _) hlt)).trans (cell_of_row w1 w.heap.size 0 _ 27 (0, 0) hblk)))
  go_ret
  exact ⟨rfl, hB1.trans (hb2.mono hB1.size)⟩
theorem trip (F : Interp) (s : ByteArray) (w : World) (hF : F.answers w.tape) : Calls Ybaf.prog 4 #[.string s] w fun e w' => e = .returned (.bool true) ∧ Below w.heap.size w w' := by
  rcases kinds s with h | h | h | h
  · exact trip_ok s w (Or.inl h)
  · exact trip_ok s w (Or.inr (Or.inl h))
  · exact trip_ok s w (Or.inr (Or.inr h))
  · exact trip_odd F s w hF h
end Go.Proofs.YbulkamkgFmt
