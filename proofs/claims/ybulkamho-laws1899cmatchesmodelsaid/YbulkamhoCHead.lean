import Derived.Test.YbulkamhoCPrefix
namespace Go.Proofs.Ybulkamho
open Go.RowKit
set_option linter.unusedSimpArgs false

set_option maxRecDepth 100000 in
set_option maxHeartbeats 400000 in
theorem prefixNone (R n cap cp : Nat) (ao a : Option Addr) (w : World) (cR : w.cell? ⟨R, 3, none⟩ = some (.slice ao n cap)) :
    Calls Yba.prog 17 #[.pointer (some ⟨R, 0, none⟩), .slice a 0 cp] w fun e w' => e = .returned (.bool true) ∧ Below w.heap.size w w' := by
  have hd2 : decide ((n : Int) < (0 : Int)) = false := by simp
  go_enter Yba.func17, Yba.ntmps17
  go_wp2_with fail
  refine wp_loop_rounds 1 ?_
  rw [rounds_succ]
  go_wp2
  go_ret
  exact ⟨rfl, Below.refl _ _⟩

theorem prefixC (R base len cap cp : Nat) (ms : List MC) (l : List CC) (P : Nat → Raw) (ao a : Option Addr) (w : World) (hlen : len ≤ 256) (h : ResC w R base ms l ao cap) (hl1 : len ≤ l.length) (hl2 : l.length ≤ 257) (hpre : ∀ i, i < len → l[i]? = some (P i).spec)
    (hr : PRow w.heap.size w a len P) (hsm : ∀ i, i < len → (P i).lA ≤ 256 ∧ (P i).lR ≤ 256) :
    Calls Yba.prog 17 #[.pointer (some ⟨R, 0, none⟩), .slice a len cp] w fun e w' => e = .returned (.bool true) ∧ Below w.heap.size w w' := by
  have hR : R < w.heap.size := Nat.lt_of_lt_of_le h.low h.fits
  have cR : w.cell? ⟨R, 3, none⟩ = some (.slice ao ms.length cap) := by rw [cell_of_row w R 3 _ 46 (0, 0) h.blk]; rfl
  have hml := h.len
  by_cases hp : 0 < len
  · obtain ⟨g, rfl, _, hg, hrow⟩ := h.row (by omega)
    exact prefixSome R g ms.length len cap cp ms P a w hlen (by omega) (by omega) rfl hR hg cR hrow (fun i m hi hm => h.says i m _ hm (hpre i hi)) hr hsm
  · obtain rfl : len = 0 := by omega
    exact prefixNone R ms.length cap cp ao a w cR

/-! ### Plain laws on what add makes -/
theorem ins_mem (U : List Int) (y z : Int) : z ∈ ins U y ↔ z ∈ U ∨ z = y := by
  unfold ins; split
  · constructor
    · exact Or.inl
    · rintro (h | rfl) <;> assumption
  · simp
theorem undIn_mem (Sn R U : List Int) (z : Int) (h : z ∈ undIn Sn R U) : z ∈ U ∨ z ∈ R := by
  induction R generalizing U with
  | nil => exact Or.inl h
  | cons r R ih =>
    have := ih (if r ∈ Sn then U else ins U r) h
    rcases this with h1 | h1
    · split at h1
      · exact Or.inl h1
      · rw [ins_mem] at h1
        rcases h1 with h1 | rfl
        · exact Or.inl h1
        · exact Or.inr (by simp)
    · exact Or.inr (by simp [h1])
theorem undR_me (sender me : Int) (l : List CC) (U Sn : List Int) (h : me ∉ U) : me ∉ undR sender me l U Sn := by
  induction l generalizing U Sn with
  | nil => exact h
  | cons s l ih =>
    simp only [undR]
    split
    · split
      · exact ih U Sn h
      · rename_i hne
        refine ih _ Sn (fun hm => ?_)
        rcases undIn_mem Sn _ U me hm with h1 | h1
        · exact h h1
        · exact hne h1
    · split
      · exact h
      · exact ih U _ h
theorem undC_me (sender me : Int) (l : List CC) : me ∉ undC sender me l := undR_me sender me l.reverse [] [] (by simp)
theorem outOf_mem (U l : List Int) (y : Int) : y ∈ outOf U l ↔ y ∈ l ∧ y ∉ U := by simp [outOf]

theorem addC_pre (me : Int) (l : List CC) (s : CC) (i : Nat) (h : i < l.length) : (addC me l s)[i]? = l[i]? := by
  unfold addC
  split
  · rfl
  · rw [List.getElem?_append_left h]
theorem addC_length (me : Int) (l : List CC) (s : CC) : (addC me l s).length = l.length ∨ (addC me l s).length = l.length + 1 := by
  unfold addC
  split
  · exact Or.inl rfl
  · exact Or.inr (by simp)
theorem addC_kept (me : Int) (l : List CC) (s : CC) (h : me ∈ s.2.2.2) : addC me l s = l ++ [(s.1, s.2.1, outOf (undC s.1 me l) s.2.2.1, outOf (undC s.1 me l) s.2.2.2)] ∧ me ∈ outOf (undC s.1 me l) s.2.2.2 := by
  have hm : me ∈ outOf (undC s.1 me l) s.2.2.2 := (outOf_mem _ _ _).2 ⟨h, undC_me _ _ _⟩
  have hpos : 0 < (outOf (undC s.1 me l) s.2.2.2).length := List.length_pos_of_mem hm
  refine ⟨?_, hm⟩
  unfold addC
  rw [if_neg (by omega)]

theorem specs_getElem (P : Nat → Raw) (n i : Nat) (h : i < n) : (specs P n)[i]? = some (P i).spec := by simp [specs, h]
theorem inB_iff (X : Nat → Int) (n : Nat) (v : Int) : inB X n v = true ↔ v % 4 ∈ m4 X n := by simp [inB]
end Go.Proofs.Ybulkamho
