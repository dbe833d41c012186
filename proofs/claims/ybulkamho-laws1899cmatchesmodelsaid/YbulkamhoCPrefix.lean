import Derived.Test.YbulkamhoCBig
namespace Go.Proofs.Ybulkamho
open Go.RowKit
attribute [local go_sem ↓] Go.wp_at_zero Go.wp_at_succ
set_option linter.unusedSimpArgs false

/-- 'wpList_store_fresh43', the block told. -/
theorem wpList_store_at43 {ops : Array Oper} {rest : List Oper} {o : Oper} {a : Act} {w : World} {Q : Exit → Act → World → Prop} (hgd : o.guard = none) (x y : Operand) (ho : o.op = .store 43 x y)
    (cs : List Value) (z : Array Value) (H : Nat) (hH : w.heap.size = H) (hx : a.eval x = .pointer (some ⟨H, 0, none⟩)) (hy : a.eval y = .agg cs.toArray) (hl : cs.length = 29) (hz : z.size = 29) (h1 : ∀ v ∈ cs, v.oneCell' = true)
    (h : wpList Yba.prog ops Q rest (a.put o.dst undef) (w.alloc (.cells cs.toArray 43))) : wpList Yba.prog ops Q (o :: rest) a (w.alloc (.cells z 43)) := by
  subst hH
  exact wpList_store_fresh43 hgd x y ho cs z hx hy hl hz h1 h

theorem HL.eqLen {w : World} {base : Nat} {ao : Option Addr} {c : Nat} {X : Nat → Int} {n : Nat} (h : HL w base ao c (m4 X n)) : HL w base ao c (m4 X n) := h

set_option maxRecDepth 100000 in
set_option maxHeartbeats 3200000 in
theorem prefixSome (R g n len cap cp : Nat) (ms : List MC) (P : Nat → Raw) (a : Option Addr) (w : World) (hlen : len ≤ 256) (hn : len ≤ n) (hn' : n ≤ 257) (hnm : n = ms.length) (hR : R < w.heap.size) (hg : g < w.heap.size)
    (cR : w.cell? ⟨R, 3, none⟩ = some (.slice (some ⟨g, 0, none⟩) n cap)) (hrow : ∀ t m, ms[t]? = some m → w.rangeAt g (t * 29) m.cells) (hsays : ∀ (i : Nat) (m : MC), i < len → ms[i]? = some m → Says w m (P i).spec)
    (hr : PRow w.heap.size w a len P) (hsm : ∀ i, i < len → (P i).lA ≤ 256 ∧ (P i).lR ≤ 256) :
    Calls Yba.prog 17 #[.pointer (some ⟨R, 0, none⟩), .slice a len cp] w fun e w' => e = .returned (.bool true) ∧ Below w.heap.size w w' := by
  have heq := fun w a b => equal28 9998 a b w
  have hgd := eqGuard28
  have HNM : Hid (n = ms.length) := hnm
  clear hnm
  have hd1 : decide (n < len) = false := by simp; omega
  have hd2 : decide ((n : Int) < (len : Int)) = false := by simp; omega
  go_enter Yba.func17, Yba.ntmps17
  go_wp2_with fail
  go_loopw [18] (fun i wr => ∃ t : Nat, t ≤ len ∧ i = .int .i64 t ∧ Below w.heap.size w wr) (fun i _ => len - (intOf i).toNat)
  case atStart => exact ⟨0, Nat.zero_le _, rfl, Below.refl _ _⟩
  case round =>
    obtain ⟨t, ht, rfl, hbel⟩ := hrel
    by_cases hlt : t < len
    · obtain ⟨b, off, rfl, hbB, hc⟩ := hr (by omega)
      obtain ⟨hcells, hok⟩ := hc t hlt
      obtain ⟨hlA, hlR⟩ := hsm t hlt
      obtain ⟨m, hm⟩ : ∃ m, ms[t]? = some m := ⟨_, List.getElem?_eq_getElem (by rw [← HNM.out]; omega)⟩
      have hsy := (hsays t m hlt hm).keep (Keep28.below hbel)
      have hrg : wr.rangeAt g (t * 29) m.cells := fun j v hv => (hbel.cell (p := ⟨g, t * 29 + j, none⟩) hg).trans (hrow t m hm j v hv)
      obtain ⟨s0, s1, k0, k1, hBA, hBR⟩ := hok
      obtain ⟨c0, c1, c2, c3⟩ := hcells.later hbel hbB
      have cR' := (hbel.cell (p := ⟨R, 3, none⟩) hR).trans cR
      have HONE : Hid (∀ u ∈ m.cells, u.oneCell' = true) := hsy.one
      clear hc hr hsm hcells hrow hsays cR hm
      generalize P t = r at *
      obtain ⟨s, kk, aA, lA, cA, XA, aR, lR, cRr, XR⟩ := r
      obtain ⟨x, k, va, vr⟩ := m
      obtain ⟨hx, hk, ⟨ao1, d1, e1, hl1⟩, ⟨ao2, d2, e2, hl2⟩, _, _⟩ := hsy
      simp only [Raw.spec] at s0 s1 k0 k1 hBA hBR c0 c1 c2 c3 hlA hlR hx hk e1 e2 hl1 hl2
      rw [m4_length] at e1 e2
      subst hx hk e1 e2
      have HRT : Hid (wr.rangeAt g (t * 29) (chgC (s % 4) k (.slice ao1 lA d1) (.slice ao2 lR d2))) := hrg
      obtain ⟨y0, y1, y2, y3, y4, y5, y6, y7⟩ := chgC_cells (s % 4) k (.slice ao1 lA d1) (.slice ao2 lR d2)
      have y23 : (chgC (s % 4) k (.slice ao1 lA d1) (.slice ao2 lR d2))[23]? = some (.int .u32 k) := rfl
      have y26 : (chgC (s % 4) k (.slice ao1 lA d1) (.slice ao2 lR d2))[26]? = some (.slice ao1 lA d1) := rfl
      have y27 : (chgC (s % 4) k (.slice ao1 lA d1) (.slice ao2 lR d2))[27]? = some (.slice ao2 lR d2) := rfl
      have HONE' : Hid (∀ u ∈ chgC (s % 4) k (.slice ao1 lA d1) (.slice ao2 lR d2), u.oneCell' = true) := HONE.out
      have HLN : Hid ((chgC (s % 4) k (.slice ao1 lA d1) (.slice ao2 lR d2)).length = 29) := rfl
      obtain ⟨cs, hcs⟩ : ∃ cs, cs = chgC (s % 4) k (.slice ao1 lA d1) (.slice ao2 lR d2) := ⟨_, rfl⟩
      rw [← hcs] at HRT y0 y1 y2 y3 y4 y5 y6 y7 y23 y26 y27 HONE' HLN
      have HBA : Hid (BY w.heap.size w aA lA XA) := hBA
      have HBR : Hid (BY w.heap.size w aR lR XR) := hBR
      have HL1 : Hid (HL wr 0 ao1 d1 (m4 XA lA)) := hl1
      have HL2 : Hid (HL wr 0 ao2 d2 (m4 XR lR)) := hl2
      have hz := hbel.size
      have hi0 : (0 : Int) ≤ (t : Int) := by omega
      have hi1 : (t : Int) < (n : Int) := by omega
      have hRr : R < wr.heap.size := by omega
      clear hBA hBR hl1 hl2 hcs hrg HONE
      go_wp2_with (first
        | (refine wpList_load_mid rfl 43 (.tmp 28) rfl g (t * 29) rfl cs _ (World.rangeAt_alloc HRT.out _) Yba.underlying43 rfl (by rw [size43, HLN.out]) ?_)
        | (refine wpList_store_at43 rfl (.tmp 7) (.tmp 29) rfl cs _ (wr.heap.size + 1) (by simp) rfl rfl HLN.out rfl HONE'.out ?_))
      try simp only [Act.put, List.setIfInBounds_toArray, List.set_cons_zero, List.set_cons_succ]
      obtain ⟨W, hW⟩ : ∃ W, W = (wr.alloc (.cells #[.int .u8 s, .int .u32 k, .slice aA lA cA, .slice aR lR cRr] 53)).alloc (.cells cs.toArray 43) := ⟨_, rfl⟩
      rw [← hW]
      have hbW : Below wr.heap.size wr W := by rw [hW]; exact ((Below.refl _ _).alloc (Nat.le_refl _) _).alloc (by simp) _
      have hWs : W.heap.size = wr.heap.size + 2 := by rw [hW]; simp
      have hC : W.heap[wr.heap.size]? = some (.cells #[.int .u8 s, .int .u32 k, .slice aA lA cA, .slice aR lR cRr] 53 (0, 0)) := by rw [hW, Below.heap_alloc _ _ _ (by simp)]; exact heap_alloc_new _ _
      have hG : W.heap[wr.heap.size + 1]? = some (.cells cs.toArray 43 (0, 0)) := by
        rw [hW]
        have := heap_alloc_new (wr.alloc (.cells #[.int .u8 s, .int .u32 k, .slice aA lA cA, .slice aR lR cRr] 53)) (.cells cs.toArray 43)
        simpa using this
      have pc := fun j => cell_of_row W wr.heap.size j _ 53 (0, 0) hC
      have p0 : W.cell? ⟨wr.heap.size, 0, none⟩ = some (.int .u8 s) := pc 0
      have p1 : W.cell? ⟨wr.heap.size, 1, none⟩ = some (.int .u32 k) := pc 1
      have p2 : W.cell? ⟨wr.heap.size, 2, none⟩ = some (.slice aA lA cA) := pc 2
      have p3 : W.cell? ⟨wr.heap.size, 3, none⟩ = some (.slice aR lR cRr) := pc 3
      have qc : ∀ j, W.cell? ⟨wr.heap.size + 1, j, none⟩ = cs[j]? := fun j => by rw [cell_of_row W (wr.heap.size + 1) j _ 43 (0, 0) hG]; simp
      rw [← qc] at y0 y1 y2 y3 y4 y5 y6 y7 y23 y26 y27
      have hw0 : wr.heap.size < W.heap.size := by omega
      have hw1 : wr.heap.size + 1 < W.heap.size := by omega
      clear pc qc hC hG hW hWs c0 c1 c2 c3 cR' HRT
      refine wp_region_P (fun w' => ∀ b o, b < W.heap.size → w'.cell? ⟨b, o, none⟩ = W.cell? ⟨b, o, none⟩) (fun _ => false) (by kernel_rfl) ?_
      have hS : ∀ b o, b < W.heap.size → W.drew.cell? ⟨b, o, none⟩ = W.cell? ⟨b, o, none⟩ := fun _ _ _ => rfl
      refine wpAnyP_free 0 (some 30) rfl rfl (by kernel_rfl) (by kernel_rfl) (by kernel_rfl) (fun _ _ _ h => h) (Or.inl ⟨by rfl, by intro wx _; go_simp <;> with_reducible rfl⟩) ?_
      try simp only [Act.put, List.setIfInBounds_toArray, List.set_cons_zero, List.set_cons_succ]
      refine wpAnyP_take 1 (some 31) rfl rfl (by kernel_rfl) (by kernel_rfl) (by kernel_rfl) (by kernel_rfl) (fun _ _ _ h => h) hS (Or.inl ⟨by rfl, by intro wx hx; go_simp <;> with_reducible rfl⟩) ?_
      try simp only [Act.put, List.setIfInBounds_toArray, List.set_cons_zero, List.set_cons_succ]
      refine wpAnyP_free 2 (some 32) rfl rfl (by kernel_rfl) (by kernel_rfl) (by kernel_rfl) (fun _ _ _ h => h) (Or.inl ⟨by rfl, by intro wx _; go_simp <;> with_reducible rfl⟩) ?_
      try simp only [Act.put, List.setIfInBounds_toArray, List.set_cons_zero, List.set_cons_succ]
      refine wpAnyP_take 3 (some 33) rfl rfl (by kernel_rfl) (by kernel_rfl) (by kernel_rfl) (by kernel_rfl) (fun _ _ _ h => h) hS (Or.inl ⟨by rfl, by intro wx hx; go_simp <;> with_reducible rfl⟩) ?_
      try simp only [Act.put, List.setIfInBounds_toArray, List.set_cons_zero, List.set_cons_succ]
      refine wpAnyP_one 4 rfl (by kernel_rfl) (fun KK hKK => ?_)
      go_simp
      refine (handleC s _ s0 s1).mono ?_
      rintro e w' ⟨rfl, rfl⟩
      go_simp
      have hbS : Below W.heap.size W (W.alloc (.cells #[.int .u8 (s % 4), .int .u8 0, .int .u8 0, .int .u8 0, .int .u8 0, .int .u8 0, .int .u8 0, .int .u8 0] 28)).drew := ((Below.refl _ W).alloc (Nat.le_refl _) _).drew
      refine hKK.out _ _ (fun b o h => hbS.cell (p := ⟨b, o, none⟩) h) (fun h => ?_)
      replace hS := h
      clear hKK KK
      try simp only [Act.put, List.setIfInBounds_toArray, List.set_cons_zero, List.set_cons_succ]
      refine wpAnyP_free 5 (some 35) rfl rfl (by kernel_rfl) (by kernel_rfl) (by kernel_rfl) (fun _ _ _ h => h) (Or.inl ⟨by rfl, by intro wx _; go_simp <;> with_reducible rfl⟩) ?_
      try simp only [Act.put, List.setIfInBounds_toArray, List.set_cons_zero, List.set_cons_succ]
      refine wpAnyP_free 6 (some 36) rfl rfl (by kernel_rfl) (by kernel_rfl) (by kernel_rfl) (fun _ _ _ h => h) (Or.inl ⟨by rfl, by intro wx _; go_simp <;> with_reducible rfl⟩) ?_
      try simp only [Act.put, List.setIfInBounds_toArray, List.set_cons_zero, List.set_cons_succ]
      refine wpAnyP_free 7 (some 37) rfl rfl (by kernel_rfl) (by kernel_rfl) (by kernel_rfl) (fun _ _ _ h => h) (Or.inl ⟨by rfl, by intro wx _; go_simp <;> with_reducible rfl⟩) ?_
      try simp only [Act.put, List.setIfInBounds_toArray, List.set_cons_zero, List.set_cons_succ]
      refine wpAnyP_free 8 (some 38) rfl rfl (by kernel_rfl) (by kernel_rfl) (by kernel_rfl) (fun _ _ _ h => h) (Or.inl ⟨by rfl, by intro wx _; go_simp <;> with_reducible rfl⟩) ?_
      try simp only [Act.put, List.setIfInBounds_toArray, List.set_cons_zero, List.set_cons_succ]
      refine wpAnyP_take 9 (some 39) rfl rfl (by kernel_rfl) (by kernel_rfl) (by kernel_rfl) (by kernel_rfl) (fun _ _ _ h => h) hS (Or.inl ⟨by rfl, by intro wx hx; go_simp <;> with_reducible rfl⟩) ?_
      try simp only [Act.put, List.setIfInBounds_toArray, List.set_cons_zero, List.set_cons_succ]
      refine wpAnyP_free 10 (some 40) rfl rfl (by kernel_rfl) (by kernel_rfl) (by kernel_rfl) (fun _ _ _ h => h) (Or.inl ⟨by rfl, by intro wx _; go_simp <;> with_reducible rfl⟩) ?_
      try simp only [Act.put, List.setIfInBounds_toArray, List.set_cons_zero, List.set_cons_succ]
      refine wpAnyP_take 11 (some 41) rfl rfl (by kernel_rfl) (by kernel_rfl) (by kernel_rfl) (by kernel_rfl) (fun _ _ _ h => h) hS (Or.inl ⟨by rfl, by intro wx hx; go_simp <;> with_reducible rfl⟩) ?_
      try simp only [Act.put, List.setIfInBounds_toArray, List.set_cons_zero, List.set_cons_succ]
      refine wpAnyP_free 12 (some 42) rfl rfl (by kernel_rfl) (by kernel_rfl) (by kernel_rfl) (fun _ _ _ h => h) (Or.inl ⟨by rfl, by intro wx _; go_simp <;> with_reducible rfl⟩) ?_
      try simp only [Act.put, List.setIfInBounds_toArray, List.set_cons_zero, List.set_cons_succ]
      refine wpAnyP_free 13 (some 43) rfl rfl (by kernel_rfl) (by kernel_rfl) (by kernel_rfl) (fun _ _ _ h => h) (Or.inl ⟨by rfl, by intro wx _; go_simp <;> with_reducible rfl⟩) ?_
      try simp only [Act.put, List.setIfInBounds_toArray, List.set_cons_zero, List.set_cons_succ]
      refine wpAnyP_free 14 (some 44) rfl rfl (by kernel_rfl) (by kernel_rfl) (by kernel_rfl) (fun _ _ _ h => h) (Or.inl ⟨by rfl, by intro wx _; go_simp <;> with_reducible rfl⟩) ?_
      try simp only [Act.put, List.setIfInBounds_toArray, List.set_cons_zero, List.set_cons_succ]
      refine wpAnyP_free 15 (some 45) rfl rfl (by kernel_rfl) (by kernel_rfl) (by kernel_rfl) (fun _ _ _ h => h) (Or.inl ⟨by rfl, by intro wx _; go_simp <;> with_reducible rfl⟩) ?_
      try simp only [Act.put, List.setIfInBounds_toArray, List.set_cons_zero, List.set_cons_succ]
      refine wpAnyP_free 16 (some 46) rfl rfl (by kernel_rfl) (by kernel_rfl) (by kernel_rfl) (fun _ _ _ h => h) (Or.inl ⟨by rfl, by intro wx _; go_simp <;> with_reducible rfl⟩) ?_
      try simp only [Act.put, List.setIfInBounds_toArray, List.set_cons_zero, List.set_cons_succ]
      refine wpAnyP_take 17 (some 47) rfl rfl (by kernel_rfl) (by kernel_rfl) (by kernel_rfl) (by kernel_rfl) (fun _ _ _ h => h) hS (Or.inl ⟨by rfl, by intro wx hx; go_simp <;> with_reducible rfl⟩) ?_
      try simp only [Act.put, List.setIfInBounds_toArray, List.set_cons_zero, List.set_cons_succ]
      refine wpAnyP_free 18 (some 48) rfl rfl (by kernel_rfl) (by kernel_rfl) (by kernel_rfl) (fun _ _ _ h => h) (Or.inl ⟨by rfl, by intro wx _; go_simp <;> with_reducible rfl⟩) ?_
      try simp only [Act.put, List.setIfInBounds_toArray, List.set_cons_zero, List.set_cons_succ]
      refine wpAnyP_take 19 (some 49) rfl rfl (by kernel_rfl) (by kernel_rfl) (by kernel_rfl) (by kernel_rfl) (fun _ _ _ h => h) hS (Or.inl ⟨by rfl, by intro wx hx; go_simp <;> with_reducible rfl⟩) ?_
      try simp only [Act.put, List.setIfInBounds_toArray, List.set_cons_zero, List.set_cons_succ]
      refine wpAnyP_one 20 rfl (by kernel_rfl) (fun KK hKK => ?_)
      go_simp
      refine (ceqC ao1 d1 0 aA lA cA XA _ hlA (by exact HL1.out.keep (Keep28.below (hbW.trans (hbS.mono hbW.size)))) (by exact (HBA.out.later (hbel.trans ((hbW.mono hz).trans (hbS.mono (Nat.le_trans hz hbW.size))))).up (Nat.le_trans hz (Nat.le_trans hbW.size hbS.size)))).mono ?_
      rintro e w5 ⟨rfl, hb5⟩
      go_simp
      replace hbS := hbS.trans (hb5.mono hbS.size)
      refine hKK.out _ _ (fun b o h => hbS.cell (p := ⟨b, o, none⟩) h) (fun h => ?_)
      replace hS := h
      clear hKK KK
      try simp only [Act.put, List.setIfInBounds_toArray, List.set_cons_zero, List.set_cons_succ]
      refine wpAnyP_free 21 (some 51) rfl rfl (by kernel_rfl) (by kernel_rfl) (by kernel_rfl) (fun _ _ _ h => h) (Or.inl ⟨by rfl, by intro wx _; go_simp <;> with_reducible rfl⟩) ?_
      try simp only [Act.put, List.setIfInBounds_toArray, List.set_cons_zero, List.set_cons_succ]
      refine wpAnyP_free 22 (some 52) rfl rfl (by kernel_rfl) (by kernel_rfl) (by kernel_rfl) (fun _ _ _ h => h) (Or.inl ⟨by rfl, by intro wx _; go_simp <;> with_reducible rfl⟩) ?_
      try simp only [Act.put, List.setIfInBounds_toArray, List.set_cons_zero, List.set_cons_succ]
      refine wpAnyP_free 23 (some 53) rfl rfl (by kernel_rfl) (by kernel_rfl) (by kernel_rfl) (fun _ _ _ h => h) (Or.inl ⟨by rfl, by intro wx _; go_simp <;> with_reducible rfl⟩) ?_
      try simp only [Act.put, List.setIfInBounds_toArray, List.set_cons_zero, List.set_cons_succ]
      refine wpAnyP_free 24 (some 54) rfl rfl (by kernel_rfl) (by kernel_rfl) (by kernel_rfl) (fun _ _ _ h => h) (Or.inl ⟨by rfl, by intro wx _; go_simp <;> with_reducible rfl⟩) ?_
      try simp only [Act.put, List.setIfInBounds_toArray, List.set_cons_zero, List.set_cons_succ]
      refine wpAnyP_free 25 (some 55) rfl rfl (by kernel_rfl) (by kernel_rfl) (by kernel_rfl) (fun _ _ _ h => h) (Or.inl ⟨by rfl, by intro wx _; go_simp <;> with_reducible rfl⟩) ?_
      try simp only [Act.put, List.setIfInBounds_toArray, List.set_cons_zero, List.set_cons_succ]
      refine wpAnyP_take 26 (some 56) rfl rfl (by kernel_rfl) (by kernel_rfl) (by kernel_rfl) (by kernel_rfl) (fun _ _ _ h => h) hS (Or.inl ⟨by rfl, by intro wx hx; go_simp <;> with_reducible rfl⟩) ?_
      try simp only [Act.put, List.setIfInBounds_toArray, List.set_cons_zero, List.set_cons_succ]
      refine wpAnyP_free 27 (some 57) rfl rfl (by kernel_rfl) (by kernel_rfl) (by kernel_rfl) (fun _ _ _ h => h) (Or.inl ⟨by rfl, by intro wx _; go_simp <;> with_reducible rfl⟩) ?_
      try simp only [Act.put, List.setIfInBounds_toArray, List.set_cons_zero, List.set_cons_succ]
      refine wpAnyP_take 28 (some 58) rfl rfl (by kernel_rfl) (by kernel_rfl) (by kernel_rfl) (by kernel_rfl) (fun _ _ _ h => h) hS (Or.inl ⟨by rfl, by intro wx hx; go_simp <;> with_reducible rfl⟩) ?_
      try simp only [Act.put, List.setIfInBounds_toArray, List.set_cons_zero, List.set_cons_succ]
      refine wpAnyP_one 29 rfl (by kernel_rfl) (fun KK hKK => ?_)
      go_simp
      refine (ceqC ao2 d2 0 aR lR cRr XR _ hlR (by exact HL2.out.keep (Keep28.below (hbW.trans (hbS.mono hbW.size)))) (by exact (HBR.out.later (hbel.trans ((hbW.mono hz).trans (hbS.mono (Nat.le_trans hz hbW.size))))).up (Nat.le_trans hz (Nat.le_trans hbW.size hbS.size)))).mono ?_
      rintro e w6 ⟨rfl, hb6⟩
      go_simp
      replace hbS := hbS.trans (hb6.mono hbS.size)
      refine hKK.out _ _ (fun b o h => hbS.cell (p := ⟨b, o, none⟩) h) (fun h => ?_)
      replace hS := h
      clear hKK KK
      try simp only [Act.put, List.setIfInBounds_toArray, List.set_cons_zero, List.set_cons_succ]
      refine wpAnyP_free 30 (some 60) rfl rfl (by kernel_rfl) (by kernel_rfl) (by kernel_rfl) (fun _ _ _ h => h) (Or.inl ⟨by rfl, by intro wx _; go_simp <;> with_reducible rfl⟩) ?_
      try simp only [Act.put, List.setIfInBounds_toArray, List.set_cons_zero, List.set_cons_succ]
      refine wpAnyP_free 31 (some 61) rfl rfl (by kernel_rfl) (by kernel_rfl) (by kernel_rfl) (fun _ _ _ h => h) (Or.inl ⟨by rfl, by intro wx _; go_simp <;> with_reducible rfl⟩) ?_
      try simp only [Act.put, List.setIfInBounds_toArray, List.set_cons_zero, List.set_cons_succ]
      refine wpAnyP_done (by kernel_rfl) (NoPanic.normal ?_) _
      have hB6 : Below w.heap.size w w6 := hbel.trans ((hbW.mono hz).trans (hbS.mono (Nat.le_trans hz hbW.size)))
      clear hS p0 p1 p2 p3 y0 y1 y2 y3 y4 y5 y6 y7 y23 y26 y27
      go_wp2
      go_roundw
      case rel => first | exact ⟨t + 1, by omega, by go_num, hB6⟩ | ((repeat apply Exists.intro); exact ⟨⟨t + 1, by omega, by go_num, hB6⟩, rfl⟩)
      case measure => simp [intOf]; omega
    · go_wp2
      go_ret
      exact ⟨rfl, hbel⟩
end Go.Proofs.Ybulkamho
