import Derived.Test.YbulkamjeRetained
namespace Go.Proofs.Ybulkamje
open Go.RowKit Go.Maps Go.WideMaps
set_option linter.unusedSimpArgs false

/-- Of what was there only the blocks of [lo, hi) may have turned. -/
structure Away (lo hi : Nat) (w w' : World) : Prop where
  os : w'.os = w.os
  tape : w'.tape = w.tape
  output : w'.output = w.output
  size : w.heap.size ≤ w'.heap.size
  block : ∀ k, k < w.heap.size → (k < lo ∨ hi ≤ k) → w'.heap[k]? = w.heap[k]?
theorem Away.refl (lo hi : Nat) (w : World) : Away lo hi w w := ⟨rfl, rfl, rfl, Nat.le_refl _, fun _ _ _ => rfl⟩
theorem Away.trans {lo hi : Nat} {a b c : World} (h : Away lo hi a b) (k : Away lo hi b c) : Away lo hi a c :=
  ⟨k.os.trans h.os, k.tape.trans h.tape, k.output.trans h.output, Nat.le_trans h.size k.size, fun i hi h2 => (k.block i (Nat.lt_of_lt_of_le hi h.size) h2).trans (h.block i hi h2)⟩
theorem Away.drewN {lo hi : Nat} {a w : World} (h : Away lo hi a w) (q : Nat) : Away lo hi a (w.drewN q) := h.trans ⟨rfl, rfl, rfl, Nat.le_refl _, fun _ _ _ => rfl⟩
theorem Away.drew {lo hi : Nat} {a w : World} (h : Away lo hi a w) : Away lo hi a w.drew := h.trans ⟨rfl, rfl, rfl, Nat.le_refl _, fun _ _ _ => rfl⟩
theorem Away.alloc {lo hi : Nat} {a w : World} (h : Away lo hi a w) (o : Obj) : Away lo hi a (w.alloc o) := h.trans ⟨rfl, rfl, rfl, by simp, fun k hk _ => Below.heap_alloc _ _ _ hk⟩
theorem Away.setCell {lo hi : Nat} {a w : World} (h : Away lo hi a w) {p : Addr} (h1 : lo ≤ p.block) (h2 : p.block < hi) (u : Value) : Away lo hi a (w.setCell p u) :=
  h.trans ⟨rfl, rfl, rfl, by simp [World.setCell], fun k _ hk => Below.heap_setCell _ _ _ _ (by omega)⟩
theorem Away.below {lo hi : Nat} {w w' : World} (h : Away lo hi w w') (hs : hi ≤ w.heap.size) (hlh : lo ≤ hi) : Below lo w w' :=
  ⟨h.os, h.tape, h.output, h.size, fun k hk => h.block k (by omega) (.inl hk)⟩
theorem Away.cell {lo hi : Nat} {w w' : World} (h : Away lo hi w w') {p : Addr} (hp : p.block < w.heap.size) (h2 : p.block < lo ∨ hi ≤ p.block) : w'.cell? p = w.cell? p := World.cell?_of_block (w := w) (h.block p.block hp h2)
theorem ownsMap_block {w w' : World} {R : Value → Option (DataW Nat × List MemPlace)} {b n : Nat} {D : DataW Nat} (h : w.ownsMap Yba.prog 9 R b n D) (hb : w'.heap[b]? = w.heap[b]?) : w'.ownsMap Yba.prog 9 R b n D := by
  obtain ⟨es, clock, h1, h2⟩ := h
  exact ⟨es, clock, hb.trans h1, h2⟩

/-- A store into a row. -/
theorem heap_setCell_row {w : World} {b p : Nat} {cs : Array Value} {t : TypeId} (h : w.heap[b]? = some (.cells cs t (0, 0))) (v : Value) : (w.setCell ⟨b, p, none⟩ v).heap[b]? = some (.cells (cs.setIfInBounds p v) t (0, 0)) := by
  simp [World.setCell, Array.getElem?_modify, h]
theorem heap_setCell_ne {w : World} {a : Addr} {k : Nat} (v : Value) (h : k ≠ a.block) : (w.setCell a v).heap[k]? = w.heap[k]? := Below.heap_setCell w a v k h
theorem ne_types {w : World} {a b : Nat} {cs cs' : Array Value} {t t' : TypeId} (h : w.heap[a]? = some (.cells cs t (0, 0))) (h' : w.heap[b]? = some (.cells cs' t' (0, 0))) (hne : t ≠ t') : a ≠ b := by
  rintro rfl
  rw [h] at h'
  simp at h'
  exact hne h'.2

section
variable {w : World} {s : Shape} {D : Nat → Int} {K : Nat → Nat} {A : Nat → Nat → Int} (h : Grp w s D K A)
include h
theorem Grp.setDrop (p : Nat) (d : Int) : Grp (w.setCell ⟨s.dr, p, none⟩ (.int .u64 d)) s (updV D p d) K A := by
  obtain ⟨cs, h1, h2⟩ := h.g
  obtain ⟨V, k1, k2⟩ := h.kept
  refine ⟨⟨cs, (heap_setCell_ne _ (ne_types h1 h.drop (by decide))).trans h1, h2⟩, ⟨V, (heap_setCell_ne _ (ne_types k1 h.drop (by decide))).trans k1, k2⟩, ?_, (heap_setCell_ne _ (ne_types h.acks h.drop (by decide))).trans h.acks,
    fun m hm => (heap_setCell_ne _ (h.ne m hm)).trans (h.ack m hm), h.inj, h.ne, h.one, h.four, h.bG, h.bkp, h.bdr, h.bak, h.bar⟩
  rw [heap_setCell_row h.drop, rowV_set]
  congr 3
  funext i
  simp only [updV]
  split <;> rfl
theorem Grp.setKept (p : Nat) (a : Option Addr) (k : Nat) : Grp (w.setCell ⟨s.kp, p, none⟩ (.slice a k k)) s D (updV K p k) A := by
  obtain ⟨cs, h1, h2⟩ := h.g
  obtain ⟨V, k1, k2⟩ := h.kept
  refine ⟨⟨cs, (heap_setCell_ne _ (ne_types h1 k1 (by decide))).trans h1, h2⟩, ⟨updV V p (.slice a k k), ?_, fun q hq => ?_⟩, (heap_setCell_ne _ (ne_types h.drop k1 (by decide))).trans h.drop, (heap_setCell_ne _ (ne_types h.acks k1 (by decide))).trans h.acks,
    fun m hm => (heap_setCell_ne _ (ne_types (h.ack m hm) k1 (by decide))).trans (h.ack m hm), h.inj, h.ne, h.one, h.four, h.bG, h.bkp, h.bdr, h.bak, h.bar⟩
  · rw [heap_setCell_row k1, rowV_set]
  · simp only [updV]
    split
    · exact ⟨a, rfl⟩
    · exact k2 q hq
theorem Grp.setAck (m p : Nat) (hm : m < s.n) (x : Int) : Grp (w.setCell ⟨s.ar m, p, none⟩ (.int .u64 x)) s D K (updV A m (updV (A m) p x)) := by
  obtain ⟨cs, h1, h2⟩ := h.g
  obtain ⟨V, k1, k2⟩ := h.kept
  have ha := h.ack m hm
  refine ⟨⟨cs, (heap_setCell_ne _ (ne_types h1 ha (by decide))).trans h1, h2⟩, ⟨V, (heap_setCell_ne _ (ne_types k1 ha (by decide))).trans k1, k2⟩, (heap_setCell_ne _ (Ne.symm (h.ne m hm))).trans h.drop, (heap_setCell_ne _ (ne_types h.acks ha (by decide))).trans h.acks,
    fun j hj => ?_, h.inj, h.ne, h.one, h.four, h.bG, h.bkp, h.bdr, h.bak, h.bar⟩
  by_cases e : j = m
  · subst e
    rw [heap_setCell_row ha, rowV_set]
    congr 3
    funext i
    simp only [updV, if_true]
    split <;> rfl
  · have : s.ar j ≠ s.ar m := fun e2 => e (h.inj j m hj hm e2)
    rw [heap_setCell_ne _ this, h.ack j hj]
    simp [updV, e]
theorem Grp.alloc (hs : s.hi ≤ w.heap.size) (o : Obj) : Grp (w.alloc o) s D K A := h.keep (fun b _ hb => Below.heap_alloc _ _ _ (by omega))
end

/-- All the groups, N of them, of the order O. -/
structure St (w : World) (B0 B O mb nn N : Nat) (Dm : DataW Nat) (sh : Nat → Shape) (D : Nat → Nat → Int) (K : Nat → Nat → Nat) (A : Nat → Nat → Nat → Int) : Prop where
  cO : w.cell? ⟨O, 1, none⟩ = some (.map (some mb))
  own : w.ownsMap Yba.prog 9 Rp mb nn Dm
  tab : Tab Dm (fun i => decide (i < N)) (fun i => .lit (.int .i64 (sh i).G))
  g : ∀ i, i < N → Grp w (sh i) (D i) (K i) (A i)
  hi : ∀ i, i < N → (sh i).hi ≤ B
  lo : ∀ i, i < N → B0 ≤ (sh i).lo
  sz : B ≤ w.heap.size
  ap : ∀ i j, i < N → j < N → i ≠ j → (sh i).hi ≤ (sh j).lo ∨ (sh j).hi ≤ (sh i).lo
  oO : O < B ∧ ∀ i, i < N → O < (sh i).lo ∨ (sh i).hi ≤ O
  om : mb < B ∧ ∀ i, i < N → mb < (sh i).lo ∨ (sh i).hi ≤ mb

theorem Grp.lohi {w : World} {s : Shape} {D : Nat → Int} {K : Nat → Nat} {A : Nat → Nat → Int} (h : Grp w s D K A) : s.lo ≤ s.hi := by have := h.bG; omega

/-- One group has been written. -/
theorem St.step {w w' : World} {B0 B O mb nn N : Nat} {Dm : DataW Nat} {sh : Nat → Shape} {D : Nat → Nat → Int} {K : Nat → Nat → Nat} {A : Nat → Nat → Nat → Int} (h : St w B0 B O mb nn N Dm sh D K A) (i : Nat) (hi : i < N)
    (ha : Away (sh i).lo (sh i).hi w w') {Di : Nat → Int} {Ki : Nat → Nat} {Ai : Nat → Nat → Int} (hg : Grp w' (sh i) Di Ki Ai) : St w' B0 B O mb nn N Dm sh (updV D i Di) (updV K i Ki) (updV A i Ai) := by
  have hsz := h.sz
  have hO := h.oO
  have hm := h.om
  refine ⟨(ha.cell (p := ⟨O, 1, none⟩) (by show O < _; omega) (hO.2 i hi)).trans h.cO, ownsMap_block h.own (ha.block mb (by omega) (hm.2 i hi)), h.tab, fun j hj => ?_, h.hi, h.lo, Nat.le_trans h.sz ha.size, h.ap, h.oO, h.om⟩
  by_cases e : j = i
  · subst e
    simpa [updV] using hg
  · simp only [updV, if_neg e]
    refine (h.g j hj).keep (fun b h1 h2 => ha.block b ?_ ?_)
    · have := h.hi j hj; omega
    · have := h.ap i j hi hj (Ne.symm e); omega

theorem St.keep {w w' : World} {B0 B O mb nn N : Nat} {Dm : DataW Nat} {sh : Nat → Shape} {D : Nat → Nat → Int} {K : Nat → Nat → Nat} {A : Nat → Nat → Nat → Int} (h : St w B0 B O mb nn N Dm sh D K A) (hb : Below B w w') : St w' B0 B O mb nn N Dm sh D K A := by
  have hsz := h.sz
  refine ⟨(hb.cell (p := ⟨O, 1, none⟩) h.oO.1).trans h.cO, ownsMap_block h.own (hb.block mb h.om.1), h.tab, fun j hj => (h.g j hj).keep (fun b _ h2 => hb.block b ?_), h.hi, h.lo, Nat.le_trans h.sz hb.size, h.ap, h.oO, h.om⟩
  have := h.hi j hj; omega
end Go.Proofs.Ybulkamje
