import Derived.Test.YbulkamjeNew
import Derived.BigQuiet
import Derived.Carry
namespace Go.Proofs.Ybulkamje
open Go.RowKit Go.Maps Go.WideMaps Go.Shelf
set_option linter.unusedSimpArgs false

/-- The names in order; beyond them a text above all. -/
def keyX (j : Nat) : ByteArray := if j < 256 then key j else ⟨#[255]⟩
theorem key_list (i : Nat) (hi : i < 256) : (key i).toList = [103, UInt8.ofNat i] := by
  have h : ∀ i : Fin 256, (key i.1).toList = [103, UInt8.ofNat i.1] := by decide +kernel
  exact h ⟨i, hi⟩
theorem big_list : (ByteArray.toList ⟨#[255]⟩) = [255] := by decide +kernel
theorem keyX_less (t i : Nat) (hi : i < 256) : Op.bytesLess (keyX t).toList (key i).toList = decide (t < i) := by
  unfold keyX
  split
  · rename_i ht
    rw [key_list t ht, key_list i hi]
    have e : (UInt8.ofNat t < UInt8.ofNat i) ↔ t < i := by rw [UInt8.lt_iff_toNat_lt]; simp; omega
    by_cases h : t < i
    · simp [Op.bytesLess, h, e.2 h]
    · have : ¬ (UInt8.ofNat t < UInt8.ofNat i) := fun h' => h (e.1 h')
      simp [Op.bytesLess, h, this]
  · rw [big_list, key_list i hi]
    have : ¬ t < i := by omega
    simp [Op.bytesLess, this]
theorem keyFind (N i : Nat) (hi : i < N) (hN : N ≤ 256) : Lib.bsGo (fun t => Op.bytesLess (keyX t).toList (key i).toList) N 0 N = i :=
  Lib.bsGo_spec _ i (fun t h => by rw [keyX_less t i (by omega)]; simpa using h) (fun t h => by rw [keyX_less t i (by omega)]; simp; omega) N 0 N (by omega) (Nat.zero_le _) (by omega)

set_option maxRecDepth 100000 in
set_option maxHeartbeats 1600000 in
theorem addGroupC (O mb nn nb N cN i : Nat) (Dm : DataW Nat) (s : Shape) (D : Nat → Int) (K : Nat → Nat) (A : Nat → Nat → Int) (w : World) (hi : i < N) (hN : N ≤ 256) (hnn : nn < maxLen)
    (cO : w.cell? ⟨O, 1, none⟩ = some (.map (some mb))) (cO2 : w.cell? ⟨O, 2, none⟩ = some (.slice (some ⟨nb, 0, none⟩) N cN)) (hnb : ∀ j, j < N → w.cell? ⟨nb, j, none⟩ = some (.string (key j))) (hown : w.ownsMap Yba.prog 9 Rp mb nn Dm)
    (hg : Grp w s D K A) (hng : ∃ cs, NG w s.G cs) (hnm : w.cell? ⟨s.G, 0, none⟩ = some (.string (key i))) (hms : ∀ j, j < s.n → w.cell? ⟨s.ms, j, none⟩ = some (.string (mem j)))
    (lO : O < s.lo) (lm : mb < s.lo) (lb : nb < s.lo) (hhi : s.hi ≤ w.heap.size) (neO : O ≠ mb) (neb : nb ≠ mb) :
    Calls Yba.prog 23 #[.pointer (some ⟨O, 0, none⟩), .pointer (some ⟨s.G, 0, none⟩)] w fun e w' => e = .returned (.tuple #[]) ∧ Grp w' s D K A ∧ w'.ownsMap Yba.prog 9 Rp mb (nn + 1) (Dm.put (lit i) (.lit (.int .i64 s.G))) ∧
      w'.os = w.os ∧ w'.tape = w.tape ∧ w'.output = w.output ∧ w.heap.size ≤ w'.heap.size ∧ ∀ k, k < w.heap.size → k ≠ s.G → k ≠ mb → w'.heap[k]? = w.heap[k]? := by
  have h4 := hg.four
  have HCL := cloneS s.ms 0 s.n s.cm ((List.range s.n).map mem) w (by simp) (by omega) (fun j hj => by
    simp at hj
    rw [Nat.zero_add, hms j hj]
    simp [hj])
  have c2 := hg.cmem
  obtain ⟨cs, hng⟩ := hng
  have HNG : Hid (NG w s.G cs) := hng
  have HG : Hid (Grp w s D K A) := hg
  have hGl := hng.lt
  have hGlo := hg.bG
  clear hng hg
  go_enter Yba.func23, Yba.ntmps23
  have HOWN : Hid (w.ownsMap Yba.prog 9 Rp mb nn Dm) := hown
  have HNB : Hid (∀ j, j < N → w.cell? ⟨nb, j, none⟩ = some (.string (key j))) := hnb
  have ltm := hown.lt
  clear hms hnb hown
  go_upto_region 1 with (go_at_call 31; refine HCL.mono ?_; rintro e w1 ⟨v, rfl, hrow, hv0, hb1⟩; obtain ⟨av, nv, cv, rfl⟩ : ∃ av nv cv, v = .slice av nv cv := (by (rcases hrow.2 with ⟨h0, _⟩ | ⟨g, cap, cur, hv, _⟩; exact ⟨_, _, _, h0⟩; exact ⟨_, _, _, hv⟩)); have HA1 : Hid (Away s.G (s.G + 1) w w1) := ⟨hb1.os, hb1.tape, hb1.output, hb1.size, fun k hk _ => hb1.block k hk⟩; have HN1 : Hid (NG w1 s.G cs) := ⟨(hb1.block s.G hGl).trans HNG.out.h, HNG.out.sz⟩; clear hrow hv0 hb1 c2; have q1 := HN1.out.cell 3 (by omega); have q2 := HN1.out.fz 3; have q3 := HN1.out.lt)
  have HN2 : Hid _ := HN1.out.set 3 (.slice av nv cv)
  have HA2 : Hid _ := HA1.out.setCell (p := ⟨s.G, 3, none⟩) (Nat.le_refl _) (Nat.lt_succ_self _) (.slice av nv cv)
  generalize w1.setCell ⟨s.G, 3, none⟩ (.slice av nv cv) = w2 at *
  clear q1 q2 q3 HN1 HA1 HCL
  have q1 := HN2.out.cell 4 (by omega)
  have q2 := HN2.out.fz 4
  have q3 := HN2.out.lt
  have hmm := fun t W => run_makeMap (P := Yba.prog) t W
  go_upto_region 2 with fail
  have HN3 : Hid _ := (HN2.out.set 4 (.map (some w2.heap.size))).alloc (.map #[] 0)
  have HA3 : Hid _ := (HA2.out.setCell (p := ⟨s.G, 4, none⟩) (Nat.le_refl _) (Nat.lt_succ_self _) (.map (some w2.heap.size))).alloc (.map #[] 0)
  generalize w2.heap.size = z2 at *
  generalize (w2.setCell ⟨s.G, 4, none⟩ (.map (some z2))).alloc (.map #[] 0) = w3 at *
  clear q1 q2 q3 HN2 HA2
  have q1 := HN3.out.cell 34 (by omega)
  have q2 := HN3.out.fz 34
  have q3 := HN3.out.lt
  go_upto_region 3 with fail
  have HN4 : Hid _ := (HN3.out.set 34 (.map (some w3.heap.size))).alloc (.map #[] 0)
  have HA4 : Hid _ := (HA3.out.setCell (p := ⟨s.G, 34, none⟩) (Nat.le_refl _) (Nat.lt_succ_self _) (.map (some w3.heap.size))).alloc (.map #[] 0)
  generalize w3.heap.size = z3 at *
  generalize (w3.setCell ⟨s.G, 34, none⟩ (.map (some z3))).alloc (.map #[] 0) = w4 at *
  clear q1 q2 q3 HN3 HA3
  have neG : O < s.G := by omega
  have hOl : O < w.heap.size := by omega
  have e1 : w4.cell? ⟨O, 1, none⟩ = some (.map (some mb)) := (HA4.out.cell (p := ⟨O, 1, none⟩) hOl (.inl neG)).trans cO
  have e2 : w4.cell? ⟨O, 2, none⟩ = some (.slice (some ⟨nb, 0, none⟩) N cN) := (HA4.out.cell (p := ⟨O, 2, none⟩) hOl (.inl neG)).trans cO2
  have e0 : w4.cell? ⟨s.G, 0, none⟩ = some (.string (key i)) := by
    rw [cell_of_row w4 s.G 0 _ 57 (0, 0) HN4.out.h]
    rw [cell_of_row w s.G 0 _ 57 (0, 0) HNG.out.h] at hnm
    rw [← hnm]
    simp
  have HOWN4 : Hid (w4.drew.ownsMap Yba.prog 9 Rp mb nn Dm) := ownsMap_block HOWN.out (HA4.out.block mb ltm (.inl (by omega)))
  have hl4 := HA4.out.size
  obtain ⟨w5, hup, hown5, hgr5⟩ := HOWN4.out.update (t := 27) (e := 26) (val := .pointer (some ⟨s.G, 0, none⟩)) (d := .lit (.int .i64 s.G)) (ps := []) K9 Yba.underlying27 hnn (keyOf_key i) rfl
  have HOWN5 : Hid _ := hown5
  have HGR5 : Hid _ := hgr5
  have q3 := HN4.out.lt
  have q4 : O < w4.heap.size := by omega
  clear hown5 hgr5 cO cO2 hnm HOWN HOWN4
  go_region
  go_wp2_with fail
  have hb5 : ∀ k, k < w4.heap.size → k ≠ mb → w5.heap[k]? = w4.heap[k]? := fun k h1 h2 => HGR5.out.block k h1 (by simpa using h2)
  have f2 : w5.cell? ⟨O, 2, none⟩ = some (.slice (some ⟨nb, 0, none⟩) N cN) := (World.cell?_of_block (w := w4) (a := ⟨O, 2, none⟩) (hb5 O q4 neO)).trans e2
  have f0 : w5.cell? ⟨s.G, 0, none⟩ = some (.string (key i)) := (World.cell?_of_block (w := w4) (a := ⟨s.G, 0, none⟩) (hb5 s.G q3 (by omega))).trans e0
  have HNB5 : Hid (∀ j, j < N → w5.cell? ⟨nb, j, none⟩ = some (.string (key j))) := fun j hj => ((World.cell?_of_block (w := w4) (a := ⟨nb, j, none⟩) (hb5 nb (by omega) neb)).trans (HA4.out.cell (p := ⟨nb, j, none⟩) (by show nb < _; omega) (.inl (by show nb < _; omega)))).trans (HNB.out j hj)
  have HSR := fun q => searchS nb 0 N cN keyX (key i) (w5.drewN q) (by omega) (fun j hj => by rw [Nat.zero_add, keyX, if_pos (by omega)]; exact HNB5.out j hj)
  have ed : decide (i < N ∧ keyX i = key i) = true := by simp [hi, keyX]; omega
  rw [keyFind N i hi hN, ed] at HSR
  have HB5 : Hid (∀ k, k < w4.heap.size → k ≠ mb → w5.heap[k]? = w4.heap[k]?) := hb5
  clear hb5 ed e1 e2 e0 hup
  go_quiet (first | (go_at_call 32; exact Calls.quiet_of (HSR _)))
  go_wp2
  go_end0
  have hkeep : ∀ k, k < w.heap.size → k ≠ s.G → k ≠ mb → (w5.drewN nq).heap[k]? = w.heap[k]? := fun k h1 h2 h3 => (HB5.out k (by omega) h3).trans (HA4.out.block k h1 (by omega))
  have h := HG.out
  obtain ⟨cs0, h1, k1, k2, k10, k11, k14⟩ := h.g
  obtain rfl : cs0 = cs := by have := h1.symm.trans HNG.out.h; simpa using this
  obtain ⟨V, v1, v2⟩ := h.kept
  have hs4 : w4.heap.size ≤ w5.heap.size := HGR5.out.size
  refine ⟨rfl, ⟨⟨_, (HB5.out s.G q3 (by omega)).trans HN4.out.h, by simpa using k1, by simpa using k2, by simpa using k10, by simpa using k11, by simpa using k14⟩, ⟨V, (hkeep s.kp ?_ (ne_types v1 h1 (by decide)) ?_).trans v1, v2⟩, (hkeep s.dr ?_ (ne_types h.drop h1 (by decide)) ?_).trans h.drop, (hkeep s.ak ?_ (ne_types h.acks h1 (by decide)) ?_).trans h.acks,
    fun m hm => (hkeep (s.ar m) ?_ (ne_types (h.ack m hm) h1 (by decide)) ?_).trans (h.ack m hm), h.inj, h.ne, h.one, h.four, h.bG, h.bkp, h.bdr, h.bak, h.bar⟩, HOWN5.out, HGR5.out.os.trans HA4.out.os, HGR5.out.tape.trans HA4.out.tape, HGR5.out.output.trans HA4.out.output, Nat.le_trans hl4 hs4, hkeep⟩
  · have := h.bkp; omega
  · have := h.bkp; omega
  · have := h.bdr; omega
  · have := h.bdr; omega
  · have := h.bak; omega
  · have := h.bak; omega
  · have := h.bar m hm; omega
  · have := h.bar m hm; omega
end Go.Proofs.Ybulkamje
