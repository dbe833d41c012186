import Derived.Test.YbulkamhoCBools
namespace Go.Proofs.Ybulkamho
open Go.RowKit

theorem info5parts : ∃ i, Yba.prog.info? 5 = some i ∧ i.zero = some (.int .u8 0) ∧ i.size = 1 ∧ i.bytes = 1 := by
  have h : (Yba.prog.info? 5).map (fun i => (i.zero, i.size, i.bytes)) = some (some (.int .u8 0), 1, 1) := by kernel_rfl
  obtain ⟨i0, hi, hz0, hz1, hz2⟩ := info_parts h
  exact ⟨i0, hi, hz0, hz1, hz2⟩
theorem news1 (w : World) (cs : List Value) (t : TypeId) : ∀ j u, cs[j]? = some u → (w.alloc (.cells cs.toArray t)).cell? ((⟨w.heap.size, 0, none⟩ : Addr).add j) = some u := by
  intro j u hj
  exact World.news_of_block (heap_alloc_new w (.cells cs.toArray t)) j u (by simpa using hj)

/-- A row of bytes that the call made, as its bytes. -/
theorem BY.ofOwn {w : World} {base : Nat} {ao : Option Addr} {c : Nat} {l : List Int} (h : w.ownsRow base 5 1 (.slice ao l.length c) l.length (l.map (Value.int .u8))) (hb : ∀ z ∈ l, 0 ≤ z ∧ z ≤ 255) :
    BY w.heap.size w ao l.length (fun i => l.getD i 0) := by
  intro hp
  rcases h.2 with ⟨_, h0⟩ | ⟨g, cap, cur, hv, hbg, hg, hnc, _, hcs, htk⟩
  · omega
  · simp at hv
    obtain ⟨rfl, rfl⟩ := hv
    refine ⟨g, 0, rfl, (Array.getElem?_eq_some_iff.1 hg).1, fun i hi => ?_⟩
    have hm : l.getD i 0 ∈ l := by
      rw [List.getD_eq_getElem?_getD, List.getElem?_eq_getElem hi]; exact List.getElem_mem _
    refine ⟨?_, (hb _ hm).1, (hb _ hm).2⟩
    rw [cell_of_row w g (0 + i) _ 5 (0, 0) hg, Nat.zero_add]
    have h1 : (cur.toList.take (l.length * 1))[i]? = some (.int .u8 (l.getD i 0)) := by
      rw [htk]; simp [List.getD_eq_getElem?_getD, List.getElem?_eq_getElem hi]
    rw [List.getElem?_take_of_lt (by omega)] at h1
    simpa using h1
end Go.Proofs.Ybulkamho
