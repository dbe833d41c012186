import Derived.Test.YbulkamhoCHead
namespace Go.Proofs.Ybulkamho
open Go.RowKit
attribute [local go_sem ↓] Go.wp_at_zero Go.wp_at_succ
set_option linter.unusedSimpArgs false

/-- The four cells of the boxed change. -/
def SC (B : Nat) (v1 v2 v3 v4 : Value) (w : World) : Prop :=
  w.cell? ⟨B, 0, none⟩ = some v1 ∧ w.cell? ⟨B, 1, none⟩ = some v2 ∧ w.cell? ⟨B, 2, none⟩ = some v3 ∧ w.cell? ⟨B, 3, none⟩ = some v4
theorem SC.later {B : Nat} {v1 v2 v3 v4 : Value} {w w' : World} (h : SC B v1 v2 v3 v4 w) (hb : Below (B + 1) w w') : SC B v1 v2 v3 v4 w' := by
  have e : ∀ j, w'.cell? ⟨B, j, none⟩ = w.cell? ⟨B, j, none⟩ := fun j => hb.cell (p := ⟨B, j, none⟩) (Nat.lt_succ_self B)
  exact ⟨(e _).trans h.1, (e _).trans h.2.1, (e _).trans h.2.2.1, (e _).trans h.2.2.2⟩
theorem PRow.up' {B B' : Nat} {w : World} {a : Option Addr} {len : Nat} {P : Nat → Raw} (h : PRow B w a len P) (hB : B ≤ B') : PRow B' w a len P := by
  intro hp
  obtain ⟨b, off, ha, hbb, hc⟩ := h hp
  refine ⟨b, off, ha, by omega, fun i hi => ⟨(hc i hi).1, ?_⟩⟩
  obtain ⟨q1, q2, q3, q4, q5, q6⟩ := (hc i hi).2
  exact ⟨q1, q2, q3, q4, q5.up hB, q6.up hB⟩

set_option maxRecDepth 100000 in
set_option maxHeartbeats 6400000 in
theorem keptWalk (a : Option Addr) (len cp : Nat) (P : Nat → Raw) (self s k : Int) (aA : Option Addr) (lA cA : Nat) (XA : Nat → Int) (aR : Option Addr) (lR cR : Nat) (XR : Nat → Int) (w : World) (hml : len ≤ maxLen) (hr : PRow w.heap.size w a len P)
    (f0 : 0 ≤ self) (f1 : self ≤ 255) (hok : RawOk w.heap.size w ⟨s, k, aA, lA, cA, XA, aR, lR, cR, XR⟩) :
    Calls Yba.prog 6 #[.slice a len cp, .int .u8 self, .agg #[.int .u8 s, .int .u32 k, .slice aA lA cA, .slice aR lR cR]] w fun e w' => e = .returned (.bool true) ∧ Below w.heap.size w w' := by
  obtain ⟨s0, s1, k0, k1, hBA, hBR⟩ := hok
  simp only at s0 s1 k0 k1 hBA hBR
  have HBA : Hid (BY w.heap.size w aA lA XA) := hBA
  have HBR : Hid (BY w.heap.size w aR lR XR) := hBR
  have HP : Hid (PRow w.heap.size w a len P) := hr
  clear hBA hBR hr
  have heq := fun w a b => equal28 9998 a b w
  have hgd := eqGuard28
  go_enter Yba.func6, Yba.ntmps6
  go_wp2_with fail
  have hB0 : Below w.heap.size w (w.alloc (.cells #[.int .u8 s, .int .u32 k, .slice aA lA cA, .slice aR lR cR] 53)) := (Below.refl _ _).alloc (Nat.le_refl _) _
  refine (bigC a len cp P s k aA lA cA XA aR lR cR XR _ ((HP.out.later hB0).up' hB0.size) hml).mono ?_
  rintro e w1 ⟨hb1, bb, rfl, hsmall⟩
  have hB1 : Below w.heap.size w w1 := hB0.trans (hb1.mono hB0.size)
  cases bb
  rotate_left
  · go_wp2
    go_ret
    exact ⟨rfl, hB1⟩
  obtain ⟨hlen, hlA, hlR, hPs⟩ := hsmall rfl
  simp only at hlA hlR
  clear hsmall
  have hzB1 : w.heap.size + 1 ≤ w1.heap.size := by have := hb1.size; simp at this; exact this
  have hC1 : w1.heap[w.heap.size]? = some (.cells #[.int .u8 s, .int .u32 k, .slice aA lA cA, .slice aR lR cR] 53 (0, 0)) := (hb1.block _ (by simp)).trans (heap_alloc_new _ _)
  have HPS : Hid (∀ i, i < len → (P i).lA ≤ 256 ∧ (P i).lR ≤ 256) := hPs
  clear hPs
  go_wp2_with (go_at_call 13; refine (buildC a len cp P _ hlen ((HP.out.later hB1).up' hB1.size) HPS.out).mono ?_; rintro e w2 ⟨rfl, hb2, ms, ao, cap, hres⟩)
  have hB2 : Below w.heap.size w w2 := hB1.trans (hb2.mono hB1.size)
  have HRES : Hid (ResC w2 w1.heap.size (w1.heap.size + 1) ms (specs P len) ao cap) := hres
  have hzB2 : w.heap.size + 1 ≤ w2.heap.size := Nat.le_trans hzB1 hb2.size
  have hC2 : w2.heap[w.heap.size]? = some (.cells #[.int .u8 s, .int .u32 k, .slice aA lA cA, .slice aR lR cR] 53 (0, 0)) := (hb2.block _ (by omega)).trans hC1
  have pc := fun j => cell_of_row w2 w.heap.size j _ 53 (0, 0) hC2
  have hS0 : SC w.heap.size (.int .u8 s) (.int .u32 k) (.slice aA lA cA) (.slice aR lR cR) w2 := ⟨pc 0, pc 1, pc 2, pc 3⟩
  have hS : SC w.heap.size (.int .u8 s) (.int .u32 k) (.slice aA lA cA) (.slice aR lR cR) w2.drew := hS0
  clear hres hC1 hC2 pc hb1
  refine wp_region_P (SC w.heap.size (.int .u8 s) (.int .u32 k) (.slice aA lA cA) (.slice aR lR cR)) (fun _ => false) (by kernel_rfl) ?_
  refine wpAnyP_free 0 (some 16) rfl rfl (by kernel_rfl) (by kernel_rfl) (by kernel_rfl) (fun _ _ _ h => h) (Or.inl ⟨by rfl, by intro wx _; go_simp <;> with_reducible rfl⟩) ?_
  try simp only [Act.put, List.setIfInBounds_toArray, List.set_cons_zero, List.set_cons_succ]
  refine wpAnyP_free 1 (some 17) rfl rfl (by kernel_rfl) (by kernel_rfl) (by kernel_rfl) (fun _ _ _ h => h) (Or.inl ⟨by rfl, by intro wx _; go_simp <;> with_reducible rfl⟩) ?_
  try simp only [Act.put, List.setIfInBounds_toArray, List.set_cons_zero, List.set_cons_succ]
  refine wpAnyP_free 3 (some 19) rfl rfl (by kernel_rfl) (by kernel_rfl) (by kernel_rfl) (fun _ _ _ h => h) (Or.inl ⟨by rfl, by intro wx _; go_simp <;> with_reducible rfl⟩) ?_
  try simp only [Act.put, List.setIfInBounds_toArray, List.set_cons_zero, List.set_cons_succ]
  refine wpAnyP_take 4 (some 20) rfl rfl (by kernel_rfl) (by kernel_rfl) (by kernel_rfl) (by kernel_rfl) (fun _ _ _ h => h) hS (Or.inl ⟨by rfl, by intro wx hx; obtain ⟨x1, x2, x3, x4⟩ := hx; go_simp <;> with_reducible rfl⟩) ?_
  try simp only [Act.put, List.setIfInBounds_toArray, List.set_cons_zero, List.set_cons_succ]
  refine wpAnyP_free 6 (some 22) rfl rfl (by kernel_rfl) (by kernel_rfl) (by kernel_rfl) (fun _ _ _ h => h) (Or.inl ⟨by rfl, by intro wx _; go_simp <;> with_reducible rfl⟩) ?_
  try simp only [Act.put, List.setIfInBounds_toArray, List.set_cons_zero, List.set_cons_succ]
  refine wpAnyP_take 7 (some 23) rfl rfl (by kernel_rfl) (by kernel_rfl) (by kernel_rfl) (by kernel_rfl) (fun _ _ _ h => h) hS (Or.inl ⟨by rfl, by intro wx hx; obtain ⟨x1, x2, x3, x4⟩ := hx; go_simp <;> with_reducible rfl⟩) ?_
  try simp only [Act.put, List.setIfInBounds_toArray, List.set_cons_zero, List.set_cons_succ]
  refine wpAnyP_free 8 (some 24) rfl rfl (by kernel_rfl) (by kernel_rfl) (by kernel_rfl) (fun _ _ _ h => h) (Or.inl ⟨by rfl, by intro wx _; go_simp <;> with_reducible rfl⟩) ?_
  try simp only [Act.put, List.setIfInBounds_toArray, List.set_cons_zero, List.set_cons_succ]
  refine wpAnyP_take 9 (some 25) rfl rfl (by kernel_rfl) (by kernel_rfl) (by kernel_rfl) (by kernel_rfl) (fun _ _ _ h => h) hS (Or.inl ⟨by rfl, by intro wx hx; obtain ⟨x1, x2, x3, x4⟩ := hx; go_simp <;> with_reducible rfl⟩) ?_
  try simp only [Act.put, List.setIfInBounds_toArray, List.set_cons_zero, List.set_cons_succ]
  refine wpAnyP_free 11 (some 27) rfl rfl (by kernel_rfl) (by kernel_rfl) (by kernel_rfl) (fun _ _ _ h => h) (Or.inl ⟨by rfl, by intro wx _; go_simp <;> with_reducible rfl⟩) ?_
  try simp only [Act.put, List.setIfInBounds_toArray, List.set_cons_zero, List.set_cons_succ]
  refine wpAnyP_take 12 (some 28) rfl rfl (by kernel_rfl) (by kernel_rfl) (by kernel_rfl) (by kernel_rfl) (fun _ _ _ h => h) hS (Or.inl ⟨by rfl, by intro wx hx; obtain ⟨x1, x2, x3, x4⟩ := hx; go_simp <;> with_reducible rfl⟩) ?_
  try simp only [Act.put, List.setIfInBounds_toArray, List.set_cons_zero, List.set_cons_succ]
  refine wpAnyP_one 2 rfl (by kernel_rfl) (fun KK hKK => ?_)
  go_simp
  refine (handleC self _ f0 f1).mono ?_
  rintro e w' ⟨rfl, rfl⟩
  go_simp
  have hbS : Below w2.heap.size w2 (w2.alloc (.cells #[.int .u8 (self % 4), .int .u8 0, .int .u8 0, .int .u8 0, .int .u8 0, .int .u8 0, .int .u8 0, .int .u8 0] 28)).drew := ((Below.refl _ w2).alloc (Nat.le_refl _) _).drew
  refine hKK.out _ _ (hS0.later (hbS.mono hzB2)) (fun h => ?_)
  replace hS := h
  clear hKK KK
  try simp only [Act.put, List.setIfInBounds_toArray, List.set_cons_zero, List.set_cons_succ]
  refine wpAnyP_one 5 rfl (by kernel_rfl) (fun KK hKK => ?_)
  go_simp
  refine (handleC s _ s0 s1).mono ?_
  rintro e w' ⟨rfl, rfl⟩
  go_simp
  replace hbS : Below w2.heap.size w2 ((w2.alloc (.cells #[.int .u8 (self % 4), .int .u8 0, .int .u8 0, .int .u8 0, .int .u8 0, .int .u8 0, .int .u8 0, .int .u8 0] 28)).alloc (.cells #[.int .u8 (s % 4), .int .u8 0, .int .u8 0, .int .u8 0, .int .u8 0, .int .u8 0, .int .u8 0, .int .u8 0] 28)).drew := (((Below.refl _ w2).alloc (Nat.le_refl _) _).alloc (by simp) _).drew
  refine hKK.out _ _ (hS0.later (hbS.mono hzB2)) (fun h => ?_)
  replace hS := h
  clear hKK KK
  try simp only [Act.put, List.setIfInBounds_toArray, List.set_cons_zero, List.set_cons_succ]
  refine wpAnyP_one 10 rfl (by kernel_rfl) (fun KK hKK => ?_)
  go_simp
  refine (handlesC aA lA cA XA _ hlA (by exact (HBA.out.later (hB2.trans (hbS.mono hB2.size))).up (Nat.le_trans hB2.size hbS.size))).mono ?_
  rintro e w3 ⟨ao1, c1, rfl, hl1, hb3⟩
  go_simp
  replace hbS := hbS.trans (hb3.mono hbS.size)
  refine hKK.out _ _ (hS0.later (hbS.mono hzB2)) (fun h => ?_)
  replace hS := h
  clear hKK KK
  try simp only [Act.put, List.setIfInBounds_toArray, List.set_cons_zero, List.set_cons_succ]
  refine wpAnyP_one 13 rfl (by kernel_rfl) (fun KK hKK => ?_)
  go_simp
  refine (handlesC aR lR cR XR _ hlR (by exact (HBR.out.later (hB2.trans (hbS.mono hB2.size))).up (Nat.le_trans hB2.size hbS.size))).mono ?_
  rintro e w4 ⟨ao2, c2, rfl, hl2, hb4⟩
  go_simp
  replace hbS := hbS.trans (hb4.mono hbS.size)
  refine hKK.out _ _ (hS0.later (hbS.mono hzB2)) (fun h => ?_)
  replace hS := h
  clear hKK KK
  try simp only [Act.put, List.setIfInBounds_toArray, List.set_cons_zero, List.set_cons_succ]
  refine wpAnyP_free 14 (some 30) rfl rfl (by kernel_rfl) (by kernel_rfl) (by kernel_rfl) (fun _ _ _ h => h) (Or.inl ⟨by rfl, by intro wx _; go_simp <;> with_reducible rfl⟩) ?_
  try simp only [Act.put, List.setIfInBounds_toArray, List.set_cons_zero, List.set_cons_succ]
  refine wpAnyP_free 15 (some 31) rfl rfl (by kernel_rfl) (by kernel_rfl) (by kernel_rfl) (fun _ _ _ h => h) (Or.inl ⟨by rfl, by intro wx _; go_simp <;> with_reducible rfl⟩) ?_
  try simp only [Act.put, List.setIfInBounds_toArray, List.set_cons_zero, List.set_cons_succ]
  refine wpAnyP_one 16 rfl (by kernel_rfl) (fun KK hKK => ?_)
  go_simp
  have HADD := addWalk w1.heap.size (w1.heap.size + 1) ms (specs P len) ao cap (self % 4) (s % 4) k ao1 ao2 c1 c2 (m4 XA lA) (m4 XR lR) w4 (HRES.out.later hbS) (by rw [specs_length]; exact hlen) (by rw [m4_length]; exact hlA) (by rw [m4_length]; exact hlR) (hl1.keep (Keep28.below hb4)).zero hl2.zero
  rw [m4_length, m4_length] at HADD
  refine HADD.mono ?_
  rintro e w5 ⟨rfl, hb5, ms', ao', cap', hres5⟩
  go_simp
  clear HADD
  have hS5 : SC w.heap.size (.int .u8 s) (.int .u32 k) (.slice aA lA cA) (.slice aR lR cR) w5 := (hS0.later (hbS.mono hzB2)).later (hb5.mono hzB1)
  refine hKK.out _ _ hS5 (fun _ => ?_)
  clear hKK KK
  try simp only [Act.put, List.setIfInBounds_toArray, List.set_cons_zero, List.set_cons_succ]
  refine wpAnyP_done (by kernel_rfl) (NoPanic.normal ?_) _
  obtain ⟨l, hl⟩ : ∃ l, l = addC (self % 4) (specs P len) (s % 4, k, m4 XA lA, m4 XR lR) := ⟨_, rfl⟩
  rw [← hl] at hres5
  have HL5 : Hid (l = addC (self % 4) (specs P len) (s % 4, k, m4 XA lA, m4 XR lR)) := hl
  have HR5 : Hid (ResC w5 w1.heap.size (w1.heap.size + 1) ms' l ao' cap') := hres5
  have hB5 : Below w.heap.size w w5 := hB2.trans ((hbS.mono hB2.size).trans (hb5.mono hB1.size))
  have hz5 : w1.heap.size < w5.heap.size := Nat.lt_of_lt_of_le hres5.low hres5.fits
  have hll : l.length = len ∨ l.length = len + 1 := by have := addC_length (self % 4) (specs P len) (s % 4, k, m4 XA lA, m4 XR lR); rw [specs_length, ← hl] at this; exact this
  have HPRE : Hid (∀ i, i < len → l[i]? = some (P i).spec) := fun i hi => by rw [hl, addC_pre _ _ _ _ (by rw [specs_length]; exact hi)]; exact specs_getElem P len i hi
  clear hl hres5 hS hS0 hbS hb5 hl1 hl2 hb3 hb4
  go_wp2_with (go_at_call 17; refine (prefixC w1.heap.size (w1.heap.size + 1) len cap' cp ms' l P ao' a _ hlen HR5.out (by omega) (by omega) HPRE.out ((HP.out.later hB5).up' hB5.size) HPS.out).mono ?_; rintro e w6 ⟨rfl, hb6⟩; have hS6 : SC w.heap.size (.int .u8 s) (.int .u32 k) (.slice aA lA cA) (.slice aR lR cR) w6 := hS5.later (hb6.mono (by omega)); obtain ⟨x0, x1, x2, x3⟩ := hS6)
  have hB6 : Below w.heap.size w w6 := hB5.trans (hb6.mono hB5.size)
  have HR6 : Hid (ResC w6 w1.heap.size (w1.heap.size + 1) ms' l ao' cap') := HR5.out.later hb6
  have hz6 : w1.heap.size < w6.heap.size := Nat.lt_of_lt_of_le hz5 hb6.size
  have cR6 : w6.cell? ⟨w1.heap.size, 3, none⟩ = some (.slice ao' ms'.length cap') := by rw [cell_of_row w6 w1.heap.size 3 _ 46 (0, 0) HR6.out.blk]; rfl
  have hml6 := HR6.out.len
  have HCIN := cinLoop aR lR cR XR self w6 hlR ((HBR.out.later hB6).up hB6.size) f0 f1
  obtain ⟨n, hn⟩ : ∃ n, n = ms'.length := ⟨_, rfl⟩
  rw [← hn] at cR6
  have hz60 : w.heap.size < w6.heap.size := by omega
  cases hbb : inB XR lR self
  · rw [hbb] at HCIN
    have hn2 : n = len ∨ n = len + 1 := by omega
    clear hn hml6
    rcases hn2 with rfl | rfl
    · go_wp2_with (go_at_call 18; refine HCIN.mono ?_; rintro e w' ⟨rfl, rfl⟩)
      go_ret
      exact ⟨rfl, hB6⟩
    · have hdn : decide (((len + 1 : Nat) : Int) = (len : Int)) = false := by simp; omega
      go_wp2_with (go_at_call 18; refine HCIN.mono ?_; rintro e w' ⟨rfl, rfl⟩)
      go_ret
      exact ⟨rfl, hB6⟩
  · rw [hbb] at HCIN
    have hmem : self % 4 ∈ m4 XR lR := (inB_iff XR lR self).1 hbb
    obtain ⟨hk1, hk2⟩ := addC_kept (self % 4) (specs P len) (s % 4, k, m4 XA lA, m4 XR lR) hmem
    simp only at hk1 hk2
    rw [← HL5.out] at hk1
    generalize outOf (undC (s % 4) (self % 4) (specs P len)) (m4 XR lR) = RR at hk1 hk2
    generalize outOf (undC (s % 4) (self % 4) (specs P len)) (m4 XA lA) = AA at hk1
    have hnl : l.length = len + 1 := by rw [hk1]; simp [specs_length]
    have hlast : l[len]? = some (s % 4, k, AA, RR) := by
      rw [hk1, List.getElem?_append_right (by rw [specs_length]; exact Nat.le_refl _), specs_length]; simp
    obtain ⟨m, hm⟩ : ∃ m, ms'[len]? = some m := ⟨_, List.getElem?_eq_getElem (by omega)⟩
    have hsy := HR6.out.says len m _ hm hlast
    obtain ⟨g, rfl, _, hg, hrow⟩ := HR6.out.row (by omega)
    have hrg := hrow len m hm
    have HONE : Hid (∀ u ∈ m.cells, u.oneCell' = true) := hsy.one
    obtain ⟨xm, km, va, vr⟩ := m
    obtain ⟨hx, hk, ⟨ao3, d1, e1, hl3⟩, ⟨ao4, d2, e2, hl4⟩, hsa, hsr⟩ := hsy
    simp only at hx hk e1 e2 hl3 hl4 hsa hsr
    subst hx hk e1 e2
    obtain rfl : n = len + 1 := by omega
    clear hn hml6 hrow hnl hlast hk1 hm HR6 HL5 HPRE
    have HRT : Hid (w6.rangeAt g (len * 29) (chgC (s % 4) km (.slice ao3 AA.length d1) (.slice ao4 RR.length d2))) := hrg
    have y27 : (chgC (s % 4) km (.slice ao3 AA.length d1) (.slice ao4 RR.length d2))[27]? = some (.slice ao4 RR.length d2) := rfl
    have HONE' : Hid (∀ u ∈ chgC (s % 4) km (.slice ao3 AA.length d1) (.slice ao4 RR.length d2), u.oneCell' = true) := HONE.out
    have HLN : Hid ((chgC (s % 4) km (.slice ao3 AA.length d1) (.slice ao4 RR.length d2)).length = 29) := rfl
    obtain ⟨cs, hcs⟩ : ∃ cs, cs = chgC (s % 4) km (.slice ao3 AA.length d1) (.slice ao4 RR.length d2) := ⟨_, rfl⟩
    rw [← hcs] at HRT y27 HONE' HLN
    clear HONE hrg hcs
    have hi0 : (0 : Int) ≤ (len : Int) := by omega
    have hi1 : (len : Int) < ((len + 1 : Nat) : Int) := by omega
    go_wp2_with (first
      | (go_at_call 18; refine HCIN.mono ?_; rintro e w' ⟨rfl, he⟩; rw [he]; clear he w')
      | (refine wpList_load_mid rfl 43 (.tmp 76) rfl g (len * 29) rfl cs _ HRT.out Yba.underlying43 rfl (by rw [size43, HLN.out]) ?_)
      | (refine wpList_store_at43 rfl (.tmp 8) (.tmp 77) rfl cs _ w6.heap.size rfl rfl rfl HLN.out rfl HONE'.out ?_; obtain ⟨W, hW⟩ : ∃ W, W = w6.alloc (.cells cs.toArray 43) := ⟨_, rfl⟩; rw [← hW]; have z27 : W.cell? ⟨w6.heap.size, 8 + 19, none⟩ = some (.slice ao4 RR.length d2) := (by rw [hW, cell_of_row _ w6.heap.size (8 + 19) _ 43 (0, 0) (heap_alloc_new _ _)]; simpa using y27); have hbW : Below w6.heap.size w6 W := (by rw [hW]; exact (Below.refl _ _).alloc (Nat.le_refl _) _); clear hW))
    have HL4 : Hid (HL W 0 ao4 d2 RR) := hl4.keep (Keep28.below hbW)
    have hBW : Below w.heap.size w W := hB6.trans (hbW.mono hB6.size)
    clear hl4 hl3 z27 y27 HRT HONE' HLN HCIN x0 x1 x2 x3 cR6
    have HM : Hid (self % 4 ∈ RR) := hk2
    clear hk2
    obtain ⟨nR, hnR⟩ : ∃ nR, nR = RR.length := ⟨_, rfl⟩
    have HNR : Hid (nR = RR.length) := hnR
    rw [← hnR]
    rw [← hnR] at hsr
    clear hnR
    obtain ⟨y, hy⟩ : ∃ y, y = self % 4 := ⟨_, rfl⟩
    have HY : Hid (y = self % 4) := hy
    clear hy
    go_loopw [82] (fun i wr => ∃ t : Nat, t ≤ nR ∧ i = .int .i64 t ∧ (∀ u, u < t → RR.getD u 0 ≠ self % 4) ∧ Below W.heap.size W wr) (fun i _ => nR - (intOf i).toNat)
    case atStart => exact ⟨0, Nat.zero_le _, rfl, fun u hu => absurd hu (by omega), Below.refl _ _⟩
    case round =>
      obtain ⟨t, ht, rfl, hno, hbel⟩ := hrel
      have HNO : Hid (∀ u, u < t → RR.getD u 0 ≠ self % 4) := hno
      clear hno
      by_cases hlt : t < nR
      · obtain ⟨g4, rfl, _, hg4, h8⟩ := HL4.out.eight (by rw [← HNR.out]; omega)
        obtain ⟨a0, a1, a2, a3, a4, a5, a6, a7⟩ := (h8 t (by rw [← HNR.out]; exact hlt)).later hbel hg4
        obtain ⟨x, hx⟩ : ∃ x, x = RR.getD t 0 := ⟨_, rfl⟩
        rw [← hx] at a0
        have HX : Hid (x = RR.getD t 0) := hx
        have hi2 : (t : Int) < (nR : Int) := by omega
        have hi3 : (0 : Int) ≤ (t : Int) := by omega
        have hgr : g4 < wr.heap.size := Nat.lt_of_lt_of_le hg4 hbel.size
        clear h8 hx
        go_wp2_with fail
        go_region_held3 (fun w' => w'.cell? ⟨wr.heap.size, 0, none⟩ = some (.int .u8 x) ∧ w'.cell? ⟨wr.heap.size, 1, none⟩ = some (.int .u8 0) ∧ w'.cell? ⟨wr.heap.size, 2, none⟩ = some (.int .u8 0) ∧ w'.cell? ⟨wr.heap.size, 3, none⟩ = some (.int .u8 0) ∧
            w'.cell? ⟨wr.heap.size, 4, none⟩ = some (.int .u8 0) ∧ w'.cell? ⟨wr.heap.size, 5, none⟩ = some (.int .u8 0) ∧ w'.cell? ⟨wr.heap.size, 6, none⟩ = some (.int .u8 0) ∧ w'.cell? ⟨wr.heap.size, 7, none⟩ = some (.int .u8 0))
          (go_keep)
          (first | (go_at_call 15; refine (handleC self _ f0 f1).mono ?_; rintro e w' ⟨rfl, rfl⟩))
        have hBr : Below W.heap.size W ((wr.alloc (.cells #[.int .u8 x, .int .u8 0, .int .u8 0, .int .u8 0, .int .u8 0, .int .u8 0, .int .u8 0, .int .u8 0] 28)).drew.alloc (.cells #[.int .u8 (self % 4), .int .u8 0, .int .u8 0, .int .u8 0, .int .u8 0, .int .u8 0, .int .u8 0, .int .u8 0] 28)) := ((hbel.alloc hbel.size _).drew).alloc (by have := hbel.size; simp; omega) _
        by_cases hxy : x = self % 4
        · have hb : (x == self % 4) = true := by simpa using hxy
          go_wp2
          go_ret
          exact ⟨rfl, hBW.trans (hBr.mono hBW.size)⟩
        · have hb : (x == self % 4) = false := by simpa using hxy
          have HN : Hid (∀ u, u < t + 1 → RR.getD u 0 ≠ self % 4) := by
            intro u hu
            by_cases hst : u = t
            · rw [hst, ← HX.out]; exact hxy
            · exact HNO.out u (by omega)
          clear hxy
          go_wp2
          go_roundw
          case rel => exact ⟨t + 1, by omega, by go_num, HN.out, hBr⟩
          case measure => simp [intOf]; omega
      · exfalso
        obtain ⟨u, hu, e⟩ := List.getElem_of_mem HM.out
        refine HNO.out u (by have := HNR.out; omega) ?_
        rw [List.getD_eq_getElem?_getD, List.getElem?_eq_getElem hu]
        simpa using e

end Go.Proofs.Ybulkamho
