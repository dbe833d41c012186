import Derived.Test.YbulkamjeKeys
namespace Go.Proofs.Ybulkamje
open Go.RowKit Go.Maps Go.WideMaps Go.Shelf Go.Sort
set_option linter.unusedSimpArgs false

/-- Of what was there only three blocks may have turned. -/
structure Fr (x y z : Nat) (w w' : World) : Prop where
  os : w'.os = w.os
  tape : w'.tape = w.tape
  output : w'.output = w.output
  size : w.heap.size ≤ w'.heap.size
  block : ∀ k, k < w.heap.size → k ≠ x → k ≠ y → k ≠ z → w'.heap[k]? = w.heap[k]?
theorem Fr.refl (x y z : Nat) (w : World) : Fr x y z w w := ⟨rfl, rfl, rfl, Nat.le_refl _, fun _ _ _ _ _ => rfl⟩
theorem Fr.trans {x y z : Nat} {a b c : World} (h : Fr x y z a b) (k : Fr x y z b c) : Fr x y z a c :=
  ⟨k.os.trans h.os, k.tape.trans h.tape, k.output.trans h.output, Nat.le_trans h.size k.size, fun i hi h1 h2 h3 => (k.block i (Nat.lt_of_lt_of_le hi h.size) h1 h2 h3).trans (h.block i hi h1 h2 h3)⟩
theorem Fr.cell {x y z : Nat} {w w' : World} (h : Fr x y z w w') {p : Addr} (hp : p.block < w.heap.size) (h1 : p.block ≠ x) (h2 : p.block ≠ y) (h3 : p.block ≠ z) : w'.cell? p = w.cell? p := World.cell?_of_block (w := w) (h.block p.block hp h1 h2 h3)
theorem Fr.below {x y z B : Nat} {w w' : World} (h : Fr x y z w w') (hB : B ≤ w.heap.size) (h1 : B ≤ x) (h2 : B ≤ y) (h3 : B ≤ z) : Below B w w' := ⟨h.os, h.tape, h.output, h.size, fun k hk => h.block k (by omega) (by omega) (by omega) (by omega)⟩
theorem Fr.ofBelow {x y z B : Nat} {w w' : World} (h : Below B w w') (hB : w.heap.size ≤ B) : Fr x y z w w' := ⟨h.os, h.tape, h.output, h.size, fun k hk _ _ _ => h.block k (by omega)⟩

/-- The state of newOrder's loop. -/
structure Lp (w5 wr : World) (N mb cb r gb gn : Nat) (Dg : DataW Nat) (left : Lit → Bool) (g nn cn : Nat) (Dm Dc : DataW Nat) (sh : Nat → Shape) : Prop where
  rg : wr.ranges Yba.prog 9 Rs gb r gn Dg left g
  lf : ∀ kl, left kl = true → ∃ i, i < N ∧ kl = lit i
  om : wr.ownsMap Yba.prog 9 Rp mb nn Dm
  nn : nn + g ≤ 256
  tab : Tab Dm (fun i => decide (i < N) && !left (lit i)) (fun i => .lit (.int .i64 (sh i).G))
  oc : wr.ownsMap Yba.prog 9 Rb cb cn Dc
  cn : cn + 4 * g ≤ 2000
  grp : ∀ i, i < N → left (lit i) = false → Grp wr (sh i) (fun _ => 0) (fun _ => 0) (fun _ _ => 0) ∧ w5.heap.size ≤ (sh i).lo ∧ (sh i).hi ≤ wr.heap.size
  ap : ∀ i j, i < N → j < N → left (lit i) = false → left (lit j) = false → i ≠ j → (sh i).hi ≤ (sh j).lo ∨ (sh j).hi ≤ (sh i).lo
  fr : Fr mb cb r w5 wr

theorem Tab.empty (S : Nat → Bool) (f : Nat → DataW Nat) (h : ∀ i, i < 256 → S i = false) : Tab (.map []) S f := by
  refine ⟨⟨_, rfl⟩, fun kl => ?_, fun i hi hs => ?_⟩
  · simp only [Maps.has, List.any_nil]
    constructor
    · intro h'; cases h'
    · rintro ⟨i, hi, hs, _⟩; rw [h i hi] at hs; cases hs
  · rw [h i hi] at hs; cases hs

theorem Lp.start {w5 : World} {N mb cb r gb gn : Nat} {Dg : DataW Nat} {f : Nat → DataW Nat} {cn : Nat} {Dc : DataW Nat} (hN : N ≤ 256) (hgn : gn ≤ 256) (ht : Tab Dg (fun i => decide (i < N)) f) (hr : w5.ranges Yba.prog 9 Rs gb r gn Dg (Maps.has Dg) (Maps.size Dg)) (hm : w5.ownsMap Yba.prog 9 Rp mb 0 (.map []))
    (hc : w5.ownsMap Yba.prog 9 Rb cb cn Dc) (hcn : cn ≤ 900) : Lp w5 w5 N mb cb r gb gn Dg (Maps.has Dg) (Maps.size Dg) 0 cn (.map []) Dc (fun _ => ⟨0, 0, 0, 0, 0, 0, 0, 0, 0, fun _ => 0⟩) := by
  have hsz := hr.owns.size_le
  have hall : ∀ i, i < N → Maps.has Dg (lit i) = true := fun i hi => (ht.has _).2 ⟨i, by omega, by simpa using hi, rfl⟩
  refine ⟨hr, fun kl hk => ?_, hm, by omega, Tab.empty _ _ (fun i hi => ?_), hc, by omega, fun i hi h => ?_, fun i j hi hj h => ?_, Fr.refl _ _ _ _⟩
  · obtain ⟨i, _, hi, e⟩ := (ht.has kl).1 hk
    exact ⟨i, by simpa using hi, e⟩
  · by_cases h : i < N
    · simp [hall i h]
    · simp [h]
  · rw [hall i hi] at h; cases h
  · rw [hall i hi] at h; cases h

theorem Lp.next {w5 wr w' : World} {N mb cb r gb gn : Nat} {Dg : DataW Nat} {left : Lit → Bool} {g nn cn : Nat} {Dm Dc : DataW Nat} {sh : Nat → Shape} (h : Lp w5 wr N mb cb r gb gn Dg left g nn cn Dm Dc sh) (hN : N ≤ 256) (i : Nat) (hi : i < N)
    {g' cn' : Nat} {Dc' : DataW Nat} {s : Shape} (hg' : g' < g) (hR : w'.ranges Yba.prog 9 Rs gb r gn Dg (fun z => left z && !z.sameKey (lit i)) g') (hM : w'.ownsMap Yba.prog 9 Rp mb (nn + 1) (Dm.put (lit i) (.lit (.int .i64 s.G)))) (hC : w'.ownsMap Yba.prog 9 Rb cb cn' Dc') (hcn : cn' ≤ cn + 4)
    (hG : Grp w' s (fun _ => 0) (fun _ => 0) (fun _ _ => 0)) (hlo : wr.heap.size ≤ s.lo) (hhi : s.hi ≤ w'.heap.size) (hF : Fr mb cb r wr w') (lm : mb < w5.heap.size) (lc : cb < w5.heap.size) (lr : r < w5.heap.size) :
    Lp w5 w' N mb cb r gb gn Dg (fun z => left z && !z.sameKey (lit i)) g' (nn + 1) cn' (Dm.put (lit i) (.lit (.int .i64 s.G))) Dc' (updV sh i s) := by
  have hsame : ∀ j, j < N → (left (lit j) && !(lit j).sameKey (lit i)) = false → j ≠ i → left (lit j) = false := fun j hj h1 h2 => by
    rw [lit_same (by omega) (by omega)] at h1
    simpa [h2] using h1
  have h5 := h.fr.size
  refine ⟨hR, fun kl hk => h.lf kl (by simp at hk; exact hk.1), hM, by have := h.nn; omega, ?_, hC, by have := h.cn; omega, fun j hj hl => ?_, fun j k hj hk hl1 hl2 hne => ?_, h.fr.trans hF⟩
  · have ht := h.tab.put i (by omega) (.lit (.int .i64 s.G))
    have e1 : (fun j => (decide (j < N) && !left (lit j)) || decide (j = i)) = (fun j => decide (j < N) && !(left (lit j) && !(lit j).sameKey (lit i))) := by
      funext j
      by_cases hj : j < N
      · rw [lit_same (by omega) (by omega)]
        by_cases e : j = i
        · simp [e, hi]
        · simp [hj, e]
      · have : j ≠ i := by omega
        simp [hj, this]
    have e2 : (fun j => if j = i then (.lit (.int .i64 s.G) : DataW Nat) else .lit (.int .i64 (sh j).G)) = (fun j => .lit (.int .i64 (updV sh i s j).G)) := by
      funext j
      simp only [updV]
      split <;> rfl
    rw [e1, e2] at ht
    exact ht
  · by_cases e : j = i
    · subst e
      simp only [updV, if_true]
      exact ⟨hG, by omega, hhi⟩
    · simp only [updV, if_neg e]
      obtain ⟨a, b, c⟩ := h.grp j hj (hsame j hj hl e)
      exact ⟨a.keep (fun k h1 h2 => hF.block k (by omega) (by omega) (by omega) (by omega)), b, Nat.le_trans c hF.size⟩
  · by_cases e : j = i
    · subst e
      have hk2 : k ≠ j := fun e => hne e.symm
      simp only [updV, if_true, if_neg hk2]
      have := (h.grp k hk (hsame k hk hl2 hk2)).2.2
      omega
    · by_cases e2 : k = i
      · subst e2
        simp only [updV, if_true, if_neg e]
        have := (h.grp j hj (hsame j hj hl1 e)).2.2
        omega
      · simp only [updV, if_neg e, if_neg e2]
        exact h.ap j k hj hk (hsame j hj hl1 e) (hsame k hk hl2 e2) hne

theorem Lp.done {w5 wr : World} {N mb cb r gb gn : Nat} {Dg : DataW Nat} {left : Lit → Bool} {g nn cn : Nat} {Dm Dc : DataW Nat} {sh : Nat → Shape} (h : Lp w5 wr N mb cb r gb gn Dg left g nn cn Dm Dc sh) (hl : ∀ kl, left kl = false) (O B0 : Nat) (hB0 : B0 ≤ w5.heap.size) (hO : O < w5.heap.size) (lm : mb < w5.heap.size)
    (cO : wr.cell? ⟨O, 1, none⟩ = some (.map (some mb))) : St wr B0 wr.heap.size O mb nn N Dm sh (fun _ _ => 0) (fun _ _ => 0) (fun _ _ _ => 0) := by
  have h5 := h.fr.size
  refine ⟨cO, h.om, ?_, fun i hi => (h.grp i hi (hl _)).1, fun i hi => (h.grp i hi (hl _)).2.2, fun i hi => by have := (h.grp i hi (hl _)).2.1; omega, Nat.le_refl _, fun i j hi hj hne => h.ap i j hi hj (hl _) (hl _) hne, ⟨by omega, fun i hi => .inl (by have := (h.grp i hi (hl _)).2.1; omega)⟩, ⟨by omega, fun i hi => .inl (by have := (h.grp i hi (hl _)).2.1; omega)⟩⟩
  have ht := h.tab
  have e1 : (fun j => decide (j < N) && !left (lit j)) = (fun j => decide (j < N)) := by
    funext j
    rw [hl]; simp
  rw [e1] at ht
  exact ht
end Go.Proofs.Ybulkamje
