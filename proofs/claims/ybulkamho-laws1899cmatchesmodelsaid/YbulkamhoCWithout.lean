import Derived.Test.YbulkamhoCList2
namespace Go.Proofs.Ybulkamho
open Go.RowKit
set_option linter.unusedSimpArgs false

theorem info28parts : ∃ i z, Yba.prog.info? 28 = some i ∧ i.zero = some z ∧ i.size = 8 ∧ i.bytes = 8 ∧ z.cells.size = 8 := by
  obtain ⟨i0, hi, hz⟩ := Option.map_eq_some_iff.1 Yba.info28
  simp only [Prod.mk.injEq] at hz
  obtain ⟨hz0, hz1, hz2⟩ := hz
  obtain ⟨z, hz0, hzs⟩ := Option.map_eq_some_iff.1 hz0
  exact ⟨i0, z, hi, hz0, hz1, hz2, hzs⟩

/-- The handles that are not in U. -/
def outOf (U : List Int) (l : List Int) : List Int := l.filter fun y => !decide (y ∈ U)
theorem outOf_length (U l : List Int) : (outOf U l).length ≤ l.length := List.length_filter_le _ _
theorem outOf_take (U l : List Int) (t : Nat) (h : t < l.length) : outOf U (l.take (t + 1)) = outOf U (l.take t) ++ (if l.getD t 0 ∈ U then [] else [l.getD t 0]) := by
  have e : l.take (t + 1) = l.take t ++ [l.getD t 0] := by
    rw [List.take_add_one, List.getD_eq_getElem?_getD, List.getElem?_eq_getElem h]; rfl
  rw [e, outOf, outOf, List.filter_append]
  congr 1
  generalize l.getD t 0 = y
  by_cases hm : y ∈ U <;> simp [hm]

set_option maxRecDepth 100000 in
set_option maxHeartbeats 800000 in
theorem withoutLoop (g n c b : Nat) (l U : List Int) (w : World) (hn : n ≤ 256) (hg : g < w.heap.size) (hl : n = l.length) (hh : ∀ t, t < n → H8 w g (t * 8) (l.getD t 0)) (hm : HMap w b U) :
    Calls Yba.prog 22 #[.slice (some ⟨g, 0, none⟩) n c, .map (some b)] w fun e w' => ∃ ao c, e = .returned (.slice ao (outOf U l).length c) ∧ HL w' w.heap.size ao c (outOf U l) ∧ Below w.heap.size w w' := by
  obtain ⟨i0, z, hi, hz0, hz1, hz2, hzs⟩ := info28parts
  have HL' : Hid (n = l.length) := hl
  clear hl
  have hbl := hm.lt
  have HM : Hid (HMap w b U) := hm
  clear hm
  go_enter Yba.func22, Yba.ntmps22
  go_wp2_with fail
  go_loopw [5, 10] (fun v i wr => ∃ k : Nat, k ≤ n ∧ i = .int .i64 k ∧ ∃ ao c m, v = .slice ao m c ∧ m = (outOf U (l.take k)).length ∧ wr.ownsRow w.heap.size 28 8 (.slice ao m c) m (cells8 (outOf U (l.take k))) ∧ Below w.heap.size w wr) (fun _ i _ => n - (intOf i).toNat)
  case atStart => exact ⟨0, Nat.zero_le _, rfl, none, 0, 0, rfl, by simp [outOf], World.ownsRow_nil _ _ _ _, Below.refl _ _⟩
  case round =>
    obtain ⟨k, hk, rfl, ao, c, m, rfl, hme, hown, hbel⟩ := hrel
    have hmk : m ≤ k := by rw [hme]; have := outOf_length U (l.take k); have h2 : (l.take k).length ≤ k := List.length_take_le _ _; omega
    have HME : Hid (m = (outOf U (l.take k)).length) := hme
    clear hme
    by_cases hlt : k < n
    · obtain ⟨a0, a1, a2, a3, a4, a5, a6, a7⟩ := (hh k hlt).later hbel hg
      have htl : k < l.length := by rw [← HL'.out]; exact hlt
      have HOT : Hid (outOf U (l.take (k + 1)) = outOf U (l.take k) ++ (if l.getD k 0 ∈ U then [] else [l.getD k 0])) := outOf_take U l k htl
      obtain ⟨y, hy⟩ : ∃ y, y = l.getD k 0 := ⟨_, rfl⟩
      have HY : Hid (y = l.getD k 0) := hy
      rw [← hy] at a0
      have hz3 := hbel.size
      have HMr : Hid (∀ o, HMap (wr.alloc o) b U) := fun o => HM.out.keep ((Below.heap_alloc _ _ _ (by omega)).trans (hbel.block b hbl))
      clear hh hy
      by_cases hyU : y ∈ U
      · have HN : Hid (outOf U (l.take (k + 1)) = outOf U (l.take k)) := by simp only [Hid]; rw [HOT.out, ← HY.out, if_pos hyU]; simp
        have hd : decide (y ∈ U) = true := by simpa using hyU
        clear hyU
        go_wp2_with (refine wpList_lookup66 rfl (.tmp 14) (.tmp 15) rfl b U y rfl rfl (HMr.out _) ?_)
        go_roundw
        case rel => exact ⟨k + 1, by omega, by go_num, ao, c, m, rfl, by rw [HN.out]; exact HME.out, by rw [HN.out]; exact hown.alloc _, hbel.alloc hz3 _⟩
        case measure => simp [intOf]; omega
      · have HN : Hid (outOf U (l.take (k + 1)) = outOf U (l.take k) ++ [y]) := by simp only [Hid]; rw [HOT.out, ← HY.out, if_neg hyU]
        have hd : decide (y ∈ U) = false := by simpa using hyU
        clear hyU
        go_wp2_with (first
          | (refine wpList_lookup66 rfl (.tmp 14) (.tmp 15) rfl b U y rfl rfl (HMr.out _) ?_)
          | (at_builtin; refine wpList_append_lies _ rfl (.tmp 18) (.tmp 20) 37 rfl w.heap.size 28 i0 z 8 8 Yba.underlying37 hi hz0 hz1 hz2 hzs (by omega) (.slice ao m c) m (cells8 (outOf U (l.take k))) rfl ((hown.alloc _).alloc _) ⟨wr.heap.size + 1, 0, none⟩ 1 1 (h8 y) rfl rfl (news2' wr _ (h8 y) 28) (h8_one _) (by omega) (by unfold maxLen; omega) (by omega) (by simp; omega) (wr.heap.size + 2) (by simp) ?_; intro g1 cap w1 hown1 hgrow hat hlt1))
        have hb1 : Below w.heap.size w w1 := Below.grown ((hbel.alloc hz3 _).alloc (by simp; omega) _) hgrow (by simp; omega) (fun k hk => (hown.lt k hk).1)
        rw [← cells8_snoc, ← HN.out] at hown1
        clear hgrow hat hlt1
        go_wp2
        go_roundw
        case rel => exact ⟨k + 1, by omega, by go_num, some ⟨g1, 0, none⟩, cap, m + 1, rfl, by rw [HN.out, List.length_append, ← HME.out]; rfl, hown1, hb1⟩
        case measure => simp [intOf]; omega
    · obtain rfl : k = n := by omega
      have e : l.take k = l := by rw [HL'.out, List.take_length]
      have R : Hid (m = (outOf U l).length ∧ HL wr w.heap.size ao c (outOf U l)) := by
        have h1 := HME.out
        rw [e] at h1 hown
        refine ⟨h1, ?_⟩
        unfold HL
        rw [← h1]
        exact hown
      clear hown e
      go_wp2
      go_ret
      exact ⟨ao, c, by rw [← R.out.1]; rfl, R.out.2, hbel⟩

set_option maxRecDepth 100000 in
set_option maxHeartbeats 400000 in
theorem withoutNone (ao : Option Addr) (c b : Nat) (w : World) :
    Calls Yba.prog 22 #[.slice ao 0 c, .map (some b)] w fun e w' => e = .returned (.slice none 0 0) ∧ w' = w := by
  go_enter Yba.func22, Yba.ntmps22
  go_wp2_with fail
  refine wp_loop_rounds 1 ?_
  rw [rounds_succ]
  go_wp2
  go_ret
  exact ⟨rfl, rfl⟩

theorem withoutC (ao : Option Addr) (n c base b : Nat) (l U : List Int) (w : World) (hn : l.length ≤ 256) (hl : n = l.length) (h : HL w base ao c l) (hm : HMap w b U) :
    Calls Yba.prog 22 #[.slice ao n c, .map (some b)] w fun e w' => ∃ ao c, e = .returned (.slice ao (outOf U l).length c) ∧ HL w' w.heap.size ao c (outOf U l) ∧ Below w.heap.size w w' := by
  subst hl
  by_cases hp : 0 < l.length
  · obtain ⟨g, rfl, _, hg, hc⟩ := h.eight hp
    exact withoutLoop g l.length c b l U w hn hg rfl hc hm
  · obtain rfl : l = [] := List.eq_nil_of_length_eq_zero (by omega)
    refine (withoutNone ao c b w).mono ?_
    rintro e w' ⟨rfl, rfl⟩
    exact ⟨none, 0, rfl, World.ownsRow_nil _ _ _ _, Below.refl _ _⟩
end Go.Proofs.Ybulkamho
