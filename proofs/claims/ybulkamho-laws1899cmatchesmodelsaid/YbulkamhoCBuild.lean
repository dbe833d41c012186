import Derived.Test.YbulkamhoCAdd
namespace Go.Proofs.Ybulkamho
open Go.RowKit
attribute [local go_sem ↓] Go.wp_at_zero Go.wp_at_succ
set_option linter.unusedSimpArgs false

/-- A plain change as it came in. -/
structure Raw where
  s : Int
  k : Int
  aA : Option Addr
  lA : Nat
  cA : Nat
  XA : Nat → Int
  aR : Option Addr
  lR : Nat
  cR : Nat
  XR : Nat → Int
def Raw.spec (r : Raw) : CC := (r.s % 4, r.k, m4 r.XA r.lA, m4 r.XR r.lR)
structure RawOk (B : Nat) (w : World) (r : Raw) : Prop where
  s0 : 0 ≤ r.s
  s1 : r.s ≤ 255
  k0 : 0 ≤ r.k
  k1 : r.k < 4294967296
  A : BY B w r.aA r.lA r.XA
  R : BY B w r.aR r.lR r.XR
theorem RawOk.later {B : Nat} {w w' : World} {r : Raw} (h : RawOk B w r) (hb : Below B w w') : RawOk B w' r := ⟨h.s0, h.s1, h.k0, h.k1, h.A.later hb, h.R.later hb⟩

/-- What is known of the slice of plain changes. -/
structure RCells (w : World) (b o : Nat) (r : Raw) : Prop where
  c0 : w.cell? ⟨b, o, none⟩ = some (.int .u8 r.s)
  c1 : w.cell? ⟨b, o + 1, none⟩ = some (.int .u32 r.k)
  c2 : w.cell? ⟨b, o + 2, none⟩ = some (.slice r.aA r.lA r.cA)
  c3 : w.cell? ⟨b, o + 3, none⟩ = some (.slice r.aR r.lR r.cR)
theorem RCells.later {B : Nat} {w w' : World} {b o : Nat} {r : Raw} (h : RCells w b o r) (hb : Below B w w') (hB : b < B) : RCells w' b o r := by
  have e : ∀ j, w'.cell? ⟨b, j, none⟩ = w.cell? ⟨b, j, none⟩ := fun j => hb.cell (p := ⟨b, j, none⟩) hB
  exact ⟨(e _).trans h.c0, (e _).trans h.c1, (e _).trans h.c2, (e _).trans h.c3⟩
def PRow (B : Nat) (w : World) (a : Option Addr) (len : Nat) (P : Nat → Raw) : Prop :=
  0 < len → ∃ b off, a = some ⟨b, off, none⟩ ∧ b < B ∧ ∀ i, i < len → RCells w b (off + i * 4) (P i) ∧ RawOk B w (P i)
theorem PRow.later {B : Nat} {w w' : World} {a : Option Addr} {len : Nat} {P : Nat → Raw} (h : PRow B w a len P) (hb : Below B w w') : PRow B w' a len P := by
  intro hp
  obtain ⟨b, off, ha, hbb, hc⟩ := h hp
  exact ⟨b, off, ha, hbb, fun i hi => ⟨(hc i hi).1.later hb hbb, (hc i hi).2.later hb⟩⟩

/-- The changes that are built of the first n. -/
def specs (P : Nat → Raw) (n : Nat) : List CC := (List.range n).map fun i => (P i).spec
theorem specs_succ (P : Nat → Raw) (n : Nat) : specs P (n + 1) = specs P n ++ [(P n).spec] := by simp [specs, List.range_succ]
theorem specs_length (P : Nat → Raw) (n : Nat) : (specs P n).length = n := by simp [specs]

/-- What the region of the build reads. -/
def SB (R C : Nat) (v0 v1 v2 v3 v4 : Value) (w : World) : Prop :=
  w.cell? ⟨R, 3, none⟩ = some v0 ∧ w.cell? ⟨C, 0, none⟩ = some v1 ∧ w.cell? ⟨C, 1, none⟩ = some v2 ∧ w.cell? ⟨C, 2, none⟩ = some v3 ∧ w.cell? ⟨C, 3, none⟩ = some v4
theorem SB.later {R C : Nat} {v0 v1 v2 v3 v4 : Value} {w w' : World} (h : SB R C v0 v1 v2 v3 v4 w) (hb : Below (C + 1) w w') (hR : R < C := by omega) : SB R C v0 v1 v2 v3 v4 w' := by
  have e : ∀ b j, b < C + 1 → w'.cell? ⟨b, j, none⟩ = w.cell? ⟨b, j, none⟩ := fun b j hb' => hb.cell (p := ⟨b, j, none⟩) hb'
  exact ⟨(e _ _ (by omega)).trans h.1, (e _ _ (by omega)).trans h.2.1, (e _ _ (by omega)).trans h.2.2.1, (e _ _ (by omega)).trans h.2.2.2.1, (e _ _ (by omega)).trans h.2.2.2.2⟩
theorem SB.grown {R C : Nat} {v0 v1 v2 v3 v4 : Value} {w w' : World} {row : Option Nat} (h : SB R C v0 v1 v2 v3 v4 w) (hg : w.grownBy w' row) (h1 : row = some R → False) (h2 : row = some C → False) : SB R C v0 v1 v2 v3 v4 w' :=
  ⟨hg.cell h.1 (fun e => h1 e.symm), hg.cell h.2.1 (fun e => h2 e.symm), hg.cell h.2.2.1 (fun e => h2 e.symm), hg.cell h.2.2.2.1 (fun e => h2 e.symm), hg.cell h.2.2.2.2 (fun e => h2 e.symm)⟩

theorem cell_litC (w : World) (cs : List Value) (t : TypeId) : ∀ j u, cs[j]? = some u → (w.alloc (.cells cs.toArray t)).cell? ((⟨w.heap.size, 0, none⟩ : Addr).add j) = some u := by
  intro j u hj
  exact World.news_of_block (heap_alloc_new w (.cells cs.toArray t)) j u (by simpa using hj)

set_option maxRecDepth 100000 in
set_option maxHeartbeats 3200000 in
theorem buildC (a : Option Addr) (len cp : Nat) (P : Nat → Raw) (w : World) (hlen : len ≤ 256) (hr : PRow w.heap.size w a len P) (hsm : ∀ i, i < len → (P i).lA ≤ 256 ∧ (P i).lR ≤ 256) :
    Calls Yba.prog 13 #[.slice a len cp] w fun e w' => e = .returned (.pointer (some ⟨w.heap.size, 0, none⟩)) ∧ Below w.heap.size w w' ∧ ∃ ms ao cap, ResC w' w.heap.size (w.heap.size + 1) ms (specs P len) ao cap := by
  obtain ⟨i0, hi, hz⟩ := Option.map_eq_some_iff.1 Yba.info43
  simp only [Prod.mk.injEq] at hz
  obtain ⟨hz0, hz1', hz2'⟩ := hz
  obtain ⟨z, hz0, hzs⟩ := Option.map_eq_some_iff.1 hz0
  go_enter Yba.func13, Yba.ntmps13
  go_wp2_with fail
  go_loopw [10] (fun i wr => ∃ t : Nat, t ≤ len ∧ i = .int .i64 t ∧ Below w.heap.size w wr ∧ ∃ ms ao cap, ResC wr w.heap.size (w.heap.size + 1) ms (specs P t) ao cap) (fun i _ => len - (intOf i).toNat)
  case atStart =>
    refine ⟨0, Nat.zero_le _, rfl, (Below.refl _ _).alloc (Nat.le_refl _) _, [], none, 0, ⟨?_, World.ownsRow_nil _ _ _ _, rfl, fun i m s hm => (by simp at hm), by omega, by simp⟩⟩
    exact heap_alloc_new w _
  case round =>
    obtain ⟨t, ht, rfl, hbel, ms, ao, cap, hres⟩ := hrel
    have HR : Hid (ResC wr w.heap.size (w.heap.size + 1) ms (specs P t) ao cap) := hres
    have hfit : w.heap.size + 1 ≤ wr.heap.size := hres.fits
    obtain ⟨n, hn⟩ : ∃ n, n = ms.length := ⟨_, rfl⟩
    have HN : Hid (n = ms.length) := hn
    have cR0 : wr.cell? ⟨w.heap.size, 3, none⟩ = some (.slice ao n cap) := by rw [cell_of_row wr _ 3 _ 46 (0, 0) hres.blk, hn]; rfl
    have fR : wr.frozen? ⟨w.heap.size, 3, none⟩ = false := frozen_of_blk hres.blk
    have hR : w.heap.size < wr.heap.size := hfit
    have hn' : n ≤ 256 := by rw [hn, hres.len, specs_length]; omega
    have hnb : (Value.slice ao n cap).ownBlock = some wr.heap.size → False := fun e => by rw [hn] at e; have := (hres.own.lt _ e).2; omega
    clear hres hn
    by_cases hlt : t < len
    · obtain ⟨b, off, rfl, hbB, hc⟩ := hr (by omega)
      obtain ⟨hcells, hok⟩ := hc t hlt
      obtain ⟨hlA, hlR⟩ := hsm t hlt
      have HSP : Hid (specs P (t + 1) = specs P t ++ [(P t).spec]) := specs_succ P t
      obtain ⟨s0, s1, k0, k1, hBA, hBR⟩ := hok
      obtain ⟨c0, c1, c2, c3⟩ := hcells.later hbel hbB
      have HPE : Hid ((P t).spec = ((P t).s % 4, (P t).k, m4 (P t).XA (P t).lA, m4 (P t).XR (P t).lR)) := rfl
      clear hc hr hsm hcells
      generalize P t = r at *
      obtain ⟨s, k, aA, lA, cA, XA, aR, lR, cR, XR⟩ := r
      simp only at s0 s1 k0 k1 hBA hBR c0 c1 c2 c3 hlA hlR HPE
      have HBA : Hid (BY w.heap.size w aA lA XA) := hBA
      have HBR : Hid (BY w.heap.size w aR lR XR) := hBR
      clear hBA hBR
      go_wp2_with fail
      refine wp_region_P (SB w.heap.size wr.heap.size (.slice ao n cap) (.int .u8 s) (.int .u32 k) (.slice aA lA cA) (.slice aR lR cR)) (fun i => decide (20 ≤ i)) (by kernel_rfl) ?_
      have cC : ∀ (cs : Array Value) (t j : Nat), (wr.alloc (.cells cs t)).cell? ⟨wr.heap.size, j, none⟩ = cs[j]? := fun cs t j => World.cell?_alloc_at _ _ _ _ rfl
      have hS : SB w.heap.size wr.heap.size (.slice ao n cap) (.int .u8 s) (.int .u32 k) (.slice aA lA cA) (.slice aR lR cR) (wr.alloc (.cells #[.int .u8 s, .int .u32 k, .slice aA lA cA, .slice aR lR cR] 53)).drew := ⟨cell_alloc1 cR0 _, cC _ _ 0, cC _ _ 1, cC _ _ 2, cC _ _ 3⟩
      refine wpAnyP_free 0 (some 14) rfl rfl (by kernel_rfl) (by kernel_rfl) (by kernel_rfl) (fun _ _ _ h => h) (Or.inl ⟨by rfl, by intro wx _; go_simp <;> with_reducible rfl⟩) ?_
      try simp only [Act.put, List.setIfInBounds_toArray, List.set_cons_zero, List.set_cons_succ]
      refine wpAnyP_free 1 (some 15) rfl rfl (by kernel_rfl) (by kernel_rfl) (by kernel_rfl) (fun _ _ _ h => h) (Or.inl ⟨by rfl, by intro wx _; go_simp <;> with_reducible rfl⟩) ?_
      try simp only [Act.put, List.setIfInBounds_toArray, List.set_cons_zero, List.set_cons_succ]
      refine wpAnyP_free 2 (some 16) rfl rfl (by kernel_rfl) (by kernel_rfl) (by kernel_rfl) (fun _ _ _ h => h) (Or.inl ⟨by rfl, by intro wx _; go_simp <;> with_reducible rfl⟩) ?_
      try simp only [Act.put, List.setIfInBounds_toArray, List.set_cons_zero, List.set_cons_succ]
      refine wpAnyP_free 3 (some 17) rfl rfl (by kernel_rfl) (by kernel_rfl) (by kernel_rfl) (fun _ _ _ h => h) (Or.inl ⟨by rfl, by intro wx _; go_simp <;> with_reducible rfl⟩) ?_
      try simp only [Act.put, List.setIfInBounds_toArray, List.set_cons_zero, List.set_cons_succ]
      refine wpAnyP_take 4 (some 18) rfl rfl (by kernel_rfl) (by kernel_rfl) (by kernel_rfl) (by kernel_rfl) (fun _ _ _ h => h) hS (Or.inl ⟨by rfl, by intro wx hx; obtain ⟨x1, x2, x3, x4, x5⟩ := hx; go_simp <;> with_reducible rfl⟩) ?_
      try simp only [Act.put, List.setIfInBounds_toArray, List.set_cons_zero, List.set_cons_succ]
      refine wpAnyP_free 5 (some 19) rfl rfl (by kernel_rfl) (by kernel_rfl) (by kernel_rfl) (fun _ _ _ h => h) (Or.inl ⟨by rfl, by intro wx _; go_simp <;> with_reducible rfl⟩) ?_
      try simp only [Act.put, List.setIfInBounds_toArray, List.set_cons_zero, List.set_cons_succ]
      refine wpAnyP_take 6 (some 20) rfl rfl (by kernel_rfl) (by kernel_rfl) (by kernel_rfl) (by kernel_rfl) (fun _ _ _ h => h) hS (Or.inl ⟨by rfl, by intro wx hx; obtain ⟨x1, x2, x3, x4, x5⟩ := hx; go_simp <;> with_reducible rfl⟩) ?_
      try simp only [Act.put, List.setIfInBounds_toArray, List.set_cons_zero, List.set_cons_succ]
      refine wpAnyP_free 8 (some 22) rfl rfl (by kernel_rfl) (by kernel_rfl) (by kernel_rfl) (fun _ _ _ h => h) (Or.inl ⟨by rfl, by intro wx _; go_simp <;> with_reducible rfl⟩) ?_
      try simp only [Act.put, List.setIfInBounds_toArray, List.set_cons_zero, List.set_cons_succ]
      refine wpAnyP_take 9 (some 23) rfl rfl (by kernel_rfl) (by kernel_rfl) (by kernel_rfl) (by kernel_rfl) (fun _ _ _ h => h) hS (Or.inl ⟨by rfl, by intro wx hx; obtain ⟨x1, x2, x3, x4, x5⟩ := hx; go_simp <;> with_reducible rfl⟩) ?_
      try simp only [Act.put, List.setIfInBounds_toArray, List.set_cons_zero, List.set_cons_succ]
      refine wpAnyP_free 10 (some 24) rfl rfl (by kernel_rfl) (by kernel_rfl) (by kernel_rfl) (fun _ _ _ h => h) (Or.inl ⟨by rfl, by intro wx _; go_simp <;> with_reducible rfl⟩) ?_
      try simp only [Act.put, List.setIfInBounds_toArray, List.set_cons_zero, List.set_cons_succ]
      refine wpAnyP_take 11 (some 25) rfl rfl (by kernel_rfl) (by kernel_rfl) (by kernel_rfl) (by kernel_rfl) (fun _ _ _ h => h) hS (Or.inl ⟨by rfl, by intro wx hx; obtain ⟨x1, x2, x3, x4, x5⟩ := hx; go_simp <;> with_reducible rfl⟩) ?_
      try simp only [Act.put, List.setIfInBounds_toArray, List.set_cons_zero, List.set_cons_succ]
      refine wpAnyP_free 13 (some 27) rfl rfl (by kernel_rfl) (by kernel_rfl) (by kernel_rfl) (fun _ _ _ h => h) (Or.inl ⟨by rfl, by intro wx _; go_simp <;> with_reducible rfl⟩) ?_
      try simp only [Act.put, List.setIfInBounds_toArray, List.set_cons_zero, List.set_cons_succ]
      refine wpAnyP_take 14 (some 28) rfl rfl (by kernel_rfl) (by kernel_rfl) (by kernel_rfl) (by kernel_rfl) (fun _ _ _ h => h) hS (Or.inl ⟨by rfl, by intro wx hx; obtain ⟨x1, x2, x3, x4, x5⟩ := hx; go_simp <;> with_reducible rfl⟩) ?_
      try simp only [Act.put, List.setIfInBounds_toArray, List.set_cons_zero, List.set_cons_succ]
      refine wpAnyP_one 7 rfl (by kernel_rfl) (fun KK hKK => ?_)
      go_simp
      refine (handleC s _ s0 s1).mono ?_
      rintro e w' ⟨rfl, rfl⟩
      go_simp
      have hbS : Below (wr.heap.size + 1) (wr.alloc (.cells #[.int .u8 s, .int .u32 k, .slice aA lA cA, .slice aR lR cR] 53)).drew ((wr.alloc (.cells #[.int .u8 s, .int .u32 k, .slice aA lA cA, .slice aR lR cR] 53)).alloc (.cells #[.int .u8 (s % 4), .int .u8 0, .int .u8 0, .int .u8 0, .int .u8 0, .int .u8 0, .int .u8 0, .int .u8 0] 28)).drew := ((Below.refl _ (wr.alloc (.cells #[.int .u8 s, .int .u32 k, .slice aA lA cA, .slice aR lR cR] 53)).drew).alloc (by simp) _)
      refine hKK.out _ _ (hS.later hbS) (fun h => ?_)
      replace hS := h
      clear hKK KK
      try simp only [Act.put, List.setIfInBounds_toArray, List.set_cons_zero, List.set_cons_succ]
      refine wpAnyP_one 12 rfl (by kernel_rfl) (fun KK hKK => ?_)
      go_simp
      have hbW : Below w.heap.size w ((wr.alloc (.cells #[.int .u8 s, .int .u32 k, .slice aA lA cA, .slice aR lR cR] 53)).alloc (.cells #[.int .u8 (s % 4), .int .u8 0, .int .u8 0, .int .u8 0, .int .u8 0, .int .u8 0, .int .u8 0, .int .u8 0] 28)).drew := ((hbel.alloc hbel.size _).alloc (by have := hbel.size; simp; omega) _).drew
      refine (handlesC aA lA cA XA _ hlA (by exact (HBA.out.later hbW).up hbW.size)).mono ?_
      rintro e w2 ⟨ao1, c1, rfl, hl1, hb1⟩
      go_simp
      replace hbS := hb1.mono (B' := wr.heap.size + 1) (by simp)
      have hB2 : Below w.heap.size w w2 := hbW.trans (hb1.mono hbW.size)
      have hz2 : wr.heap.size + 2 ≤ w2.heap.size := by have := hb1.size; simp at this; omega
      refine hKK.out _ _ (hS.later hbS) (fun h => ?_)
      replace hS := h
      clear hKK KK
      try simp only [Act.put, List.setIfInBounds_toArray, List.set_cons_zero, List.set_cons_succ]
      refine wpAnyP_one 15 rfl (by kernel_rfl) (fun KK hKK => ?_)
      go_simp
      refine (handlesC aR lR cR XR _ hlR (by exact (HBR.out.later hB2).up hB2.size)).mono ?_
      rintro e w3 ⟨ao2, c2, rfl, hl2, hb2⟩
      go_simp
      replace hbS := hb2.mono (B' := wr.heap.size + 1) (by omega)
      have hB3 : Below w.heap.size w w3 := hB2.trans (hb2.mono hB2.size)
      have hz3 : wr.heap.size + 2 ≤ w3.heap.size := Nat.le_trans hz2 hb2.size
      refine hKK.out _ _ (hS.later hbS) (fun h => ?_)
      replace hS := h
      clear hKK KK
      try simp only [Act.put, List.setIfInBounds_toArray, List.set_cons_zero, List.set_cons_succ]
      refine wpAnyP_free 16 (some 30) rfl rfl (by kernel_rfl) (by kernel_rfl) (by kernel_rfl) (fun _ _ _ h => h) (Or.inl ⟨by rfl, by intro wx _; go_simp <;> with_reducible rfl⟩) ?_
      try simp only [Act.put, List.setIfInBounds_toArray, List.set_cons_zero, List.set_cons_succ]
      refine wpAnyP_free 17 (some 31) rfl rfl (by kernel_rfl) (by kernel_rfl) (by kernel_rfl) (fun _ _ _ h => h) (Or.inl ⟨by rfl, by intro wx _; go_simp <;> with_reducible rfl⟩) ?_
      try simp only [Act.put, List.setIfInBounds_toArray, List.set_cons_zero, List.set_cons_succ]
      refine wpAnyP_one 18 rfl (by kernel_rfl) (fun KK hKK => ?_)
      refine step_buildSlice43 (by rfl) (.tmp 31) (by rfl) (some 32) (by rfl) (chgC (s % 4) k (.slice ao1 lA c1) (.slice ao2 lR c2)) (by rfl) rfl w3.heap.size (by simp) ?_
      replace hbS : Below (wr.heap.size + 1) w3 (w3.alloc (.cells (chgC (s % 4) k (.slice ao1 lA c1) (.slice ao2 lR c2)).toArray 43)) := (Below.refl _ _).alloc (by omega) _
      refine hKK.out _ _ (hS.later hbS) (fun h => ?_)
      replace hS := h
      clear hKK KK
      try simp only [Act.put, List.setIfInBounds_toArray, List.set_cons_zero, List.set_cons_succ]
      refine wpAnyP_one 19 rfl (by kernel_rfl) (fun KK hKK => ?_)
      have HSY : Hid (Says (w3.alloc (.cells (chgC (s % 4) k (.slice ao1 lA c1) (.slice ao2 lR c2)).toArray 43)) (s % 4, k, .slice ao1 lA c1, .slice ao2 lR c2) (s % 4, k, m4 XA lA, m4 XR lR)) := ⟨rfl, rfl, ⟨ao1, c1, by rw [m4_length], ((hl1.keep (Keep28.below hb2)).keep (Keep28.below ((Below.refl _ _).alloc (Nat.le_refl _) _))).zero⟩, ⟨ao2, c2, by rw [m4_length], (hl2.keep (Keep28.below ((Below.refl _ _).alloc (Nat.le_refl _) _))).zero⟩, by rw [m4_length]; exact hlA, by rw [m4_length]; exact hlR⟩
      have hbX : Below wr.heap.size wr (w3.alloc (.cells (chgC (s % 4) k (.slice ao1 lA c1) (.slice ao2 lR c2)).toArray 43)) := ((((Below.refl wr.heap.size wr).alloc (Nat.le_refl _) _).alloc (by simp) _).drew.trans ((hb1.mono (by simp; omega)).trans (hb2.mono (by omega)))).alloc (by omega) _
      have HOWN : Hid ((w3.alloc (.cells (chgC (s % 4) k (.slice ao1 lA c1) (.slice ao2 lR c2)).toArray 43)).ownsRow (w.heap.size + 1) 43 29 (.slice ao n cap) n (cellsC ms)) := by have := (HR.out.later hbX).own; rw [← HN.out] at this; exact this
      refine step_append_at _ (by rfl) (.tmp 18) (.tmp 32) _ (by rfl) (some 33) (by rfl) (w.heap.size + 1) 43 i0 z 29 160 Yba.underlying31 hi hz0 hz1' hz2' hzs (by omega) (.slice ao n cap) n (cellsC ms) (by rfl) HOWN.out ⟨w3.heap.size, 0, none⟩ 1 1 (chgC (s % 4) k (.slice ao1 lA c1) (.slice ao2 lR c2)) (by rfl) (by rfl) (by exact cell_litC w3 (chgC (s % 4) k (.slice ao1 lA c1) (.slice ao2 lR c2)) 43) (by exact HSY.out.one) (by omega) (by unfold maxLen; omega) (by omega) (by simp; omega) (w3.heap.size + 1) (by simp) ?_
      intro g cap' w5 hown5 hgrow hat hlt5
      have hS5 : SB w.heap.size wr.heap.size (.slice ao n cap) (.int .u8 s) (.int .u32 k) (.slice aA lA cA) (.slice aR lR cR) w5 := hS.grown hgrow (fun e => by have := (HOWN.out.lt _ e).1; omega) (fun e => hnb e)
      have f1 : w5.frozen? ⟨w.heap.size, 3, none⟩ = false := by rw [hgrow.frozen_far _ (by simp; omega) (fun e => by have := (HOWN.out.lt w.heap.size e.symm).1; omega), hbX.frozen (p := ⟨w.heap.size, 3, none⟩) hR]; exact fR
      have e1 := hS5.1
      refine hKK.out _ _ hS5 (fun h => ?_)
      replace hS := h
      clear hKK KK
      try simp only [Act.put, List.setIfInBounds_toArray, List.set_cons_zero, List.set_cons_succ]
      refine wpAnyP_free 20 (some 34) rfl rfl (by kernel_rfl) (by kernel_rfl) (by kernel_rfl) (fun _ _ _ h => h) (Or.inl ⟨by rfl, by intro wx _; go_simp <;> with_reducible rfl⟩) ?_
      try simp only [Act.put, List.setIfInBounds_toArray, List.set_cons_zero, List.set_cons_succ]
      refine wpAnyP_free 21 (some 35) rfl rfl (by kernel_rfl) (by kernel_rfl) (by kernel_rfl) (fun _ _ _ h => h) (Or.inl ⟨by rfl, by intro wx _; go_simp <;> with_reducible rfl⟩) ?_
      try simp only [Act.put, List.setIfInBounds_toArray, List.set_cons_zero, List.set_cons_succ]
      refine wpAnyP_tail 22 rfl (by kernel_rfl) rfl (fun KK hKK => ?_)
      go_simp
      refine hKK.out _ _ ?_
      clear hKK KK
      try simp only [Act.put, List.setIfInBounds_toArray, List.set_cons_zero, List.set_cons_succ]
      refine wpAnyP_done (by kernel_rfl) (NoPanic.normal ?_) _
      have RS := ResC.push (W := w3.alloc (.cells (chgC (s % 4) k (.slice ao1 lA c1) (.slice ao2 lR c2)).toArray 43)) (m := (s % 4, k, .slice ao1 lA c1, .slice ao2 lR c2)) (s := (s % 4, k, m4 XA lA, m4 XR lR)) HR.out hbX HSY.out (g := g) (cap := cap') (c := cap) (by rw [← HN.out]; exact hown5) (by rw [← HN.out]; exact hgrow)
      rw [← HN.out, ← HPE.out, ← HSP.out] at RS
      have HRS : Hid (_ ∧ _) := RS
      clear RS hS hS5 e1 f1 hown5 hgrow hbS hbX hat hlt5 hl1 hl2 hb1 hb2 cC cR0 fR
      go_wp2
      go_roundw
      case rel => exact ⟨t + 1, by omega, by go_num, hbel.trans HRS.out.2, _, _, _, HRS.out.1⟩
      case measure => simp [intOf]; omega
    · obtain rfl : t = len := by omega
      go_wp2
      go_ret
      exact ⟨rfl, hbel, ms, ao, cap, HR.out⟩
end Go.Proofs.Ybulkamho
