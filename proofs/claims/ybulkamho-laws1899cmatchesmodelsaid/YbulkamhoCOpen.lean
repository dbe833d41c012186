import Derived.Test.YbulkamhoOpen
import Derived.Test.YbulkamhoCBuild
namespace Go.Proofs.Ybulkamho
open Go.ChangeShapes Go.WideShapes Go.ChangeAt Go.RowKit Go.Deep

theorem cells5 : Yba.prog.cellsOf 5 = 1 := by kernel_rfl
theorem cells23 : Yba.prog.cellsOf 23 = 1 := by kernel_rfl
theorem cells39 : Yba.prog.cellsOf 39 = 1 := by kernel_rfl
theorem cells53 : Yba.prog.cellsOf 53 = 4 := by kernel_rfl

section
variable {H : Type} {enc : TypeId × Value → H} {w : World} {base : Nat} {spare : Nat → Bool} {held : Bool}

/-- A byte slice, opened. -/
theorem open_row8 {fuel : Nat} {cs : List Value} {x : DataW H × List MemPlace} (h : DataW.trod enc Yba.prog w base spare held fuel 39 cs = some x) :
    ∃ (a : Option Addr) (len cap : Nat) (X : Nat → Int), cs = [.slice a len cap] ∧ BY w.heap.size w a len X := by
  rcases open_ints Yba.underlying39 Yba.underlying5 cells5 h with ⟨hcs, _⟩ | ⟨a, l, c, zs, hcs, _, hl, hm, hz, _, hcell, hwz⟩
  · exact ⟨none, 0, 0, fun _ => 0, hcs, fun h => absurd h (by omega)⟩
  · have hlz : l ≤ zs.length := by rw [hz]; split <;> omega
    refine ⟨some a, l, c, fun i => zs.getD i 0, hcs, fun hp => ?_⟩
    obtain ⟨b, off, spot⟩ := a
    have hspot : spot = none := by simpa [Addr.add] using World.cell?_spot (hcell 0 (by omega))
    subst hspot
    refine ⟨b, off, rfl, ?_, fun i hi => ?_⟩
    · have := World.block_lt_of_cell? w _ (hcell 0 (by omega))
      simpa [Addr.add] using this
    · have h1 := hcell i (by omega)
      rw [add_plain] at h1
      have hm : zs.getD i 0 ∈ zs := by
        rw [List.getD_eq_getElem?_getD, List.getElem?_eq_getElem (by omega)]; exact List.getElem_mem _
      have hb := bounds_u8 (hwz _ hm)
      exact ⟨h1, hb.1, hb.2⟩

/-- A plain change, opened. -/
theorem open_raw {fuel : Nat} {cs : List Value} {x : DataW H × List MemPlace} (h : DataW.trod enc Yba.prog w base spare held fuel 53 cs = some x) :
    ∃ r : Raw, cs = [.int .u8 r.s, .int .u32 r.k, .slice r.aA r.lA r.cA, .slice r.aR r.lR r.cR] ∧ RawOk w.heap.size w r := by
  obtain ⟨xs, n, _, rfl, hl, hlen, hf⟩ := DataW.trod_struct Yba.underlying53 h
  match xs, hlen with
  | [y0, y1, y2, y3], _ =>
    have h0 := hf 0 _ rfl
    have h1 := hf 1 _ rfl
    have h2 := hf 2 _ rfl
    have h3 := hf 3 _ rfl
    rw [cells53] at hl
    match cs, hl with
    | [c0, c1, c2, c3], _ =>
      simp [cells5, cells23, cells39] at h0 h1 h2 h3
      obtain ⟨s, hs, _, ws⟩ := DataW.trod_int Yba.underlying5 h0
      obtain ⟨k, hk, _, wk⟩ := DataW.trod_int Yba.underlying23 h1
      obtain ⟨aA, lA, cA, XA, hA, bA⟩ := open_row8 h2
      obtain ⟨aR, lR, cR, XR, hR, bR⟩ := open_row8 h3
      simp at hs hk hA hR
      subst hs hk hA hR
      have b0 := bounds_u8 ws
      have b1 := bounds_u32 wk
      exact ⟨⟨s, k, aA, lA, cA, XA, aR, lR, cR, XR⟩, rfl, ⟨b0.1, b0.2, b1.1, by have := b1.2; simp only; omega, bA, bR⟩⟩

theorem open_raws {fuel : Nat} {v : Value} {x : DataW H × List MemPlace} (h : DataW.trod enc Yba.prog w base spare held fuel 51 v.cells.toList = some x) :
    ∃ (a : Option Addr) (len cap : Nat) (P : Nat → Raw), v.cells.toList = [.slice a len cap] ∧ len ≤ maxLen ∧ PRow w.heap.size w a len P := by
  obtain ⟨a, len, cap, hv, hlc, hcm, hnil, hrow⟩ := open_plain Yba.underlying51 cells53 (by omega) h
  by_cases hp : 0 < len
  · obtain ⟨b, off, n, rfl, hel⟩ := hrow hp
    haveI : Inhabited Raw := ⟨⟨0, 0, none, 0, 0, fun _ => 0, none, 0, 0, fun _ => 0⟩⟩
    obtain ⟨P, hP⟩ : ∃ P : Nat → Raw, ∀ i, i < len → RCells w b (off + i * 4) (P i) ∧ RawOk w.heap.size w (P i) := by
      refine choose_lt (α := Raw) (p := fun i r => RCells w b (off + i * 4) r ∧ RawOk w.heap.size w r) fun i hi => ?_
      obtain ⟨cs', y, hl, hc, hy⟩ := hel i hi
      obtain ⟨r, hr, hok⟩ := open_raw hy
      subst hr
      exact ⟨r, ⟨hc 0 (by omega), hc 1 (by omega), hc 2 (by omega), hc 3 (by omega)⟩, hok⟩
    refine ⟨_, len, cap, P, hv, by omega, fun _ => ⟨b, off, rfl, ?_, hP⟩⟩
    exact World.block_lt_of_cell? w _ (hP 0 hp).1.c0
  · exact ⟨a, len, cap, fun _ => ⟨0, 0, none, 0, 0, fun _ => 0, none, 0, 0, fun _ => 0⟩, hv, by omega, fun h => absurd h hp⟩
end
end Go.Proofs.Ybulkamho
