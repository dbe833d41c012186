import Derived.Test.YbulkamhoCWithout
import Derived.Test.YbulkamhoRow43
namespace Go.Proofs.Ybulkamho
open Go.RowKit
set_option linter.unusedSimpArgs false

/-- The 29 cells of a change: its sender, its keyID, the slices of those it adds and removes. -/
def chgC (x k : Int) (va vr : Value) : List Value :=
  [.int .u8 x, .int .u8 0, .int .u8 0, .int .u8 0, .int .u8 0, .int .u8 0, .int .u8 0, .int .u8 0,
   .int .u8 0, .int .u8 0, .int .u8 0, .int .u8 0, .int .u8 0, .int .u8 0, .int .u8 0, .int .u8 0, .int .u8 0, .int .u8 0, .int .u8 0, .int .u8 0, .int .u8 0,
   .slice none 0 0, .slice none 0 0, .int .u32 k, .int .u32 0, .bool false, va, vr, .slice none 0 0]
theorem chgC_length (x k : Int) (va vr : Value) : (chgC x k va vr).length = 29 := rfl

/-- A change as it lies in memory, and what it says. -/
abbrev MC := Int × Int × Value × Value
abbrev CC := Int × Int × List Int × List Int
def MC.cells (m : MC) : List Value := chgC m.1 m.2.1 m.2.2.1 m.2.2.2
def cellsC (l : List MC) : List Value := l.flatMap MC.cells
theorem cellsC_length (l : List MC) : (cellsC l).length = l.length * 29 := by
  induction l with
  | nil => rfl
  | cons c l ih => simp only [cellsC, List.flatMap_cons, List.length_append] at ih ⊢; rw [ih]; simp [MC.cells, chgC]; omega
theorem cellsC_snoc (l : List MC) (m : MC) : cellsC (l ++ [m]) = cellsC l ++ m.cells := by simp [cellsC]
theorem cellsC_at (l : List MC) (t j : Nat) (m : MC) (ht : l[t]? = some m) (hj : j < 29) : (cellsC l)[t * 29 + j]? = m.cells[j]? := by
  have htl := (List.getElem?_eq_some_iff.1 ht).1
  have hm : l[t] = m := (List.getElem?_eq_some_iff.1 ht).2
  have e : cellsC l = cellsC (l.take t) ++ (m.cells ++ cellsC (l.drop (t + 1))) := by
    have : l = l.take t ++ (m :: l.drop (t + 1)) := by
      rw [← hm, ← List.drop_eq_getElem_cons htl, List.take_append_drop]
    conv => lhs; rw [this]
    simp [cellsC]
  have hl : (cellsC (l.take t)).length = t * 29 := by rw [cellsC_length, List.length_take]; congr 1; omega
  rw [e, List.getElem?_append_right (by omega), hl, Nat.add_sub_cancel_left, List.getElem?_append_left (by show j < 29; exact hj)]

/-- Every block of handles is as it was. -/
def Keep28 (w w' : World) : Prop := ∀ (g : Nat) (cs : Array Value), w.heap[g]? = some (Obj.cells cs 28 (0, 0)) → w'.heap[g]? = some (Obj.cells cs 28 (0, 0))
theorem Keep28.refl (w : World) : Keep28 w w := fun _ _ h => h
theorem Keep28.trans {a b c : World} (h : Keep28 a b) (k : Keep28 b c) : Keep28 a c := fun g cs e => k g cs (h g cs e)
theorem Keep28.below {w w' : World} (h : Below w.heap.size w w') : Keep28 w w' := fun g _ e => (h.block g (Array.getElem?_eq_some_iff.1 e).1).trans e
theorem Keep28.alloc {w w' : World} (h : Keep28 w w') (o : Obj) : Keep28 w (w'.alloc o) := h.trans (Keep28.below ((Below.refl _ _).alloc (Nat.le_refl _) _))
theorem Keep28.drew {w w' : World} (h : Keep28 w w') : Keep28 w w'.drew := h
/-- A store into a block of another type. -/
theorem Keep28.setCell {w w' : World} (h : Keep28 w w') {g j : Nat} {cs : Array Value} {t : TypeId} (hg : w'.heap[g]? = some (.cells cs t (0, 0))) (ht : t ≠ 28) (u : Value) : Keep28 w (w'.setCell ⟨g, j, none⟩ u) := fun k cs' e => by
  have e1 := h k cs' e
  rw [heap_setCell_other w' ⟨g, j, none⟩ k u (fun hk => by subst hk; rw [hg] at e1; simp at e1; exact ht e1.2)]
  exact e1
/-- An append onto a row of changes. -/
theorem Keep28.grown {w w' w1 : World} (h : Keep28 w w') {v : Value} {base n : Nat} {xs : List Value} (hown : w'.ownsRow base 43 29 v n xs) (hg : w'.grownBy w1 v.ownBlock) : Keep28 w w1 := fun k cs e => by
  have e1 := h k cs e
  rw [hg.block k (Array.getElem?_eq_some_iff.1 e1).1 (fun hk => ?_)]
  · exact e1
  · rcases hown.2 with ⟨rfl, _⟩ | ⟨g, cap, cur, rfl, _, hgg, _⟩
    · simp [Value.ownBlock] at hk
    · simp [Value.ownBlock] at hk
      subst hk
      rw [hgg] at e1
      simp at e1

theorem HL.keep {w w' : World} {base : Nat} {ao : Option Addr} {c : Nat} {l : List Int} (h : HL w base ao c l) (k : Keep28 w w') : HL w' base ao c l := by
  refine ⟨h.1, ?_⟩
  rcases h.2 with hn | ⟨g, cap, cur, hv, hbg, hgg, rest⟩
  · exact .inl hn
  · exact .inr ⟨g, cap, cur, hv, hbg, k g cur hgg, rest⟩
theorem HL.zero {w : World} {base : Nat} {ao : Option Addr} {c : Nat} {l : List Int} (h : HL w base ao c l) : HL w 0 ao c l := by
  refine ⟨h.1, ?_⟩
  rcases h.2 with hn | ⟨g, cap, cur, hv, hbg, hgg, rest⟩
  · exact .inl hn
  · exact .inr ⟨g, cap, cur, hv, Nat.zero_le _, hgg, rest⟩

/-- The change m in memory says s. -/
structure Says (w : World) (m : MC) (s : CC) : Prop where
  x : m.1 = s.1
  k : m.2.1 = s.2.1
  add : ∃ ao c, m.2.2.1 = .slice ao s.2.2.1.length c ∧ HL w 0 ao c s.2.2.1
  rem : ∃ ao c, m.2.2.2 = .slice ao s.2.2.2.length c ∧ HL w 0 ao c s.2.2.2
  sa : s.2.2.1.length ≤ 256
  sr : s.2.2.2.length ≤ 256
theorem Says.keep {w w' : World} {m : MC} {s : CC} (h : Says w m s) (k : Keep28 w w') : Says w' m s := by
  obtain ⟨ao, c, e, hh⟩ := h.add
  obtain ⟨ao', c', e', hh'⟩ := h.rem
  exact ⟨h.x, h.k, ⟨ao, c, e, hh.keep k⟩, ⟨ao', c', e', hh'.keep k⟩, h.sa, h.sr⟩
theorem Says.one {w : World} {m : MC} {s : CC} (h : Says w m s) : ∀ u ∈ m.cells, u.oneCell' = true := by
  obtain ⟨ao, c, e, hh⟩ := h.add
  obtain ⟨ao', c', e', hh'⟩ := h.rem
  intro u hu
  simp only [MC.cells, chgC, e, e', List.mem_cons, List.not_mem_nil, or_false] at hu
  rcases hu with rfl | rfl | rfl | rfl | rfl | rfl | rfl | rfl | rfl | rfl | rfl | rfl | rfl | rfl | rfl | rfl | rfl | rfl | rfl | rfl | rfl | rfl | rfl | rfl | rfl | rfl | rfl | rfl | rfl <;> rfl

/-- The resumption in block R whose changes say l. -/
structure ResC (w : World) (R base : Nat) (ms : List MC) (l : List CC) (ao : Option Addr) (cap : Nat) : Prop where
  blk : w.heap[R]? = some (.cells #[.int .u32 0, .int .i64 0, .int .i64 0, .slice ao ms.length cap] 46 (0, 0))
  own : w.ownsRow base 43 29 (.slice ao ms.length cap) ms.length (cellsC ms)
  len : ms.length = l.length
  says : ∀ (i : Nat) (m : MC) (s : CC), ms[i]? = some m → l[i]? = some s → Says w m s
  low : R < base
  fits : base ≤ w.heap.size
theorem ResC.later {w w' : World} {R base : Nat} {ms : List MC} {l : List CC} {ao : Option Addr} {cap : Nat} (h : ResC w R base ms l ao cap) (hb : Below w.heap.size w w') : ResC w' R base ms l ao cap := by
  refine ⟨(hb.block _ (Nat.lt_of_lt_of_le h.low h.fits)).trans h.blk, ⟨h.own.1, ?_⟩, h.len, fun i m s hm hs => (h.says i m s hm hs).keep (Keep28.below hb), h.low, Nat.le_trans h.fits hb.size⟩
  rcases h.own.2 with hn | ⟨g, cap, cur, hv, hbg, hgg, rest⟩
  · exact .inl hn
  · exact .inr ⟨g, cap, cur, hv, hbg, (hb.block g (Array.getElem?_eq_some_iff.1 hgg).1).trans hgg, rest⟩

/-- Where change i lies: its cells. -/
theorem ResC.row {w : World} {R base : Nat} {ms : List MC} {l : List CC} {ao : Option Addr} {cap : Nat} (h : ResC w R base ms l ao cap) (hl : 0 < ms.length) :
    ∃ g, ao = some ⟨g, 0, none⟩ ∧ base ≤ g ∧ g < w.heap.size ∧ ∀ t m, ms[t]? = some m → w.rangeAt g (t * 29) m.cells := by
  have h' := h.own
  rcases h.own.2 with ⟨_, h0⟩ | ⟨g, cap', cur, hv, hb, hg, _⟩
  · omega
  · simp at hv
    obtain ⟨rfl, rfl⟩ := hv
    refine ⟨g, rfl, hb, (Array.getElem?_eq_some_iff.1 hg).1, fun t m hm j u hu => ?_⟩
    have htl := (List.getElem?_eq_some_iff.1 hm).1
    have hj : j < 29 := (List.getElem?_eq_some_iff.1 hu).1
    rw [World.ownsRow.cellAt h' (t * 29 + j) (by omega), cellsC_at ms t j m hm hj]
    exact hu
end Go.Proofs.Ybulkamho
