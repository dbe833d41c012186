import Derived.Test.YbulkamhoCRowE
import Derived.Test.YbulkamhoCKept
import Derived.Deep.CutBlock
import Derived.Deep.CutRange
import Derived.Deep.LoopGhost
namespace Go.Proofs.Ybulkamho
open Go.RowKit
attribute [local go_sem ↓] Go.wp_at_zero Go.wp_at_succ
set_option linter.unusedSimpArgs false

set_option maxRecDepth 100000 in
set_option maxHeartbeats 6400000 in
theorem matchWalk (a : Option Addr) (len cp : Nat) (P : Nat → Raw) (self s k : Int) (aA : Option Addr) (lA cA : Nat) (XA : Nat → Int) (aR : Option Addr) (lR cR : Nat) (XR : Nat → Int) (w : World) (hml : len ≤ maxLen) (hr : PRow w.heap.size w a len P)
    (f0 : 0 ≤ self) (f1 : self ≤ 255) (hok : RawOk w.heap.size w ⟨s, k, aA, lA, cA, XA, aR, lR, cR, XR⟩) :
    Calls Yba.prog 5 #[.slice a len cp, .int .u8 self, .agg #[.int .u8 s, .int .u32 k, .slice aA lA cA, .slice aR lR cR]] w fun e w' => e = .returned (.bool true) ∧ Below w.heap.size w w' := by
  obtain ⟨s0, s1, k0, k1, hBA, hBR⟩ := hok
  simp only at s0 s1 k0 k1 hBA hBR
  have HBA : Hid (BY w.heap.size w aA lA XA) := hBA
  have HBR : Hid (BY w.heap.size w aR lR XR) := hBR
  have HP : Hid (PRow w.heap.size w a len P) := hr
  clear hBA hBR hr
  have heq := fun w a b => equal28 9998 a b w
  have hgd := eqGuard28
  go_enter Yba.func5, Yba.ntmps5
  go_wp2_with fail
  have hB0 : Below w.heap.size w (w.alloc (.cells #[.int .u8 s, .int .u32 k, .slice aA lA cA, .slice aR lR cR] 53)) := (Below.refl _ _).alloc (Nat.le_refl _) _
  refine (bigC a len cp P s k aA lA cA XA aR lR cR XR _ ((HP.out.later hB0).up' hB0.size) hml).mono ?_
  rintro e w1 ⟨hb1, bb, rfl, hsmall⟩
  have hB1 : Below w.heap.size w w1 := hB0.trans (hb1.mono hB0.size)
  cases bb
  rotate_left
  · go_wp2
    go_ret
    exact ⟨rfl, hB1⟩
  obtain ⟨hlen, hlA, hlR, hPs⟩ := hsmall rfl
  simp only at hlA hlR
  clear hsmall
  have hzB1 : w.heap.size + 1 ≤ w1.heap.size := by have := hb1.size; simp at this; exact this
  have hC1 : w1.heap[w.heap.size]? = some (.cells #[.int .u8 s, .int .u32 k, .slice aA lA cA, .slice aR lR cR] 53 (0, 0)) := (hb1.block _ (by simp)).trans (heap_alloc_new _ _)
  have HPS : Hid (∀ i, i < len → (P i).lA ≤ 256 ∧ (P i).lR ≤ 256) := hPs
  clear hPs
  go_wp2_with (go_at_call 13; refine (buildC a len cp P _ hlen ((HP.out.later hB1).up' hB1.size) HPS.out).mono ?_; rintro e w2 ⟨rfl, hb2, ms, ao, cap, hres⟩)
  have hB2 : Below w.heap.size w w2 := hB1.trans (hb2.mono hB1.size)
  have HRES : Hid (ResC w2 w1.heap.size (w1.heap.size + 1) ms (specs P len) ao cap) := hres
  have hzB2 : w.heap.size + 1 ≤ w2.heap.size := Nat.le_trans hzB1 hb2.size
  have hC2 : w2.heap[w.heap.size]? = some (.cells #[.int .u8 s, .int .u32 k, .slice aA lA cA, .slice aR lR cR] 53 (0, 0)) := (hb2.block _ (by omega)).trans hC1
  have pc := fun j => cell_of_row w2 w.heap.size j _ 53 (0, 0) hC2
  have hS0 : SC w.heap.size (.int .u8 s) (.int .u32 k) (.slice aA lA cA) (.slice aR lR cR) w2 := ⟨pc 0, pc 1, pc 2, pc 3⟩
  have hS : SC w.heap.size (.int .u8 s) (.int .u32 k) (.slice aA lA cA) (.slice aR lR cR) w2.drew := hS0
  clear hres hC1 hC2 pc hb1
  refine wp_region_P (SC w.heap.size (.int .u8 s) (.int .u32 k) (.slice aA lA cA) (.slice aR lR cR)) (fun _ => false) (by kernel_rfl) ?_
  refine wpAnyP_free 0 (some 27) rfl rfl (by kernel_rfl) (by kernel_rfl) (by kernel_rfl) (fun _ _ _ h => h) (Or.inl ⟨by rfl, by intro wx _; go_simp <;> with_reducible rfl⟩) ?_
  try simp only [Act.put, List.setIfInBounds_toArray, List.set_cons_zero, List.set_cons_succ]
  refine wpAnyP_free 1 (some 28) rfl rfl (by kernel_rfl) (by kernel_rfl) (by kernel_rfl) (fun _ _ _ h => h) (Or.inl ⟨by rfl, by intro wx _; go_simp <;> with_reducible rfl⟩) ?_
  try simp only [Act.put, List.setIfInBounds_toArray, List.set_cons_zero, List.set_cons_succ]
  refine wpAnyP_free 3 (some 30) rfl rfl (by kernel_rfl) (by kernel_rfl) (by kernel_rfl) (fun _ _ _ h => h) (Or.inl ⟨by rfl, by intro wx _; go_simp <;> with_reducible rfl⟩) ?_
  try simp only [Act.put, List.setIfInBounds_toArray, List.set_cons_zero, List.set_cons_succ]
  refine wpAnyP_take 4 (some 31) rfl rfl (by kernel_rfl) (by kernel_rfl) (by kernel_rfl) (by kernel_rfl) (fun _ _ _ h => h) hS (Or.inl ⟨by rfl, by intro wx hx; obtain ⟨x1, x2, x3, x4⟩ := hx; go_simp <;> with_reducible rfl⟩) ?_
  try simp only [Act.put, List.setIfInBounds_toArray, List.set_cons_zero, List.set_cons_succ]
  refine wpAnyP_free 6 (some 33) rfl rfl (by kernel_rfl) (by kernel_rfl) (by kernel_rfl) (fun _ _ _ h => h) (Or.inl ⟨by rfl, by intro wx _; go_simp <;> with_reducible rfl⟩) ?_
  try simp only [Act.put, List.setIfInBounds_toArray, List.set_cons_zero, List.set_cons_succ]
  refine wpAnyP_take 7 (some 34) rfl rfl (by kernel_rfl) (by kernel_rfl) (by kernel_rfl) (by kernel_rfl) (fun _ _ _ h => h) hS (Or.inl ⟨by rfl, by intro wx hx; obtain ⟨x1, x2, x3, x4⟩ := hx; go_simp <;> with_reducible rfl⟩) ?_
  try simp only [Act.put, List.setIfInBounds_toArray, List.set_cons_zero, List.set_cons_succ]
  refine wpAnyP_free 8 (some 35) rfl rfl (by kernel_rfl) (by kernel_rfl) (by kernel_rfl) (fun _ _ _ h => h) (Or.inl ⟨by rfl, by intro wx _; go_simp <;> with_reducible rfl⟩) ?_
  try simp only [Act.put, List.setIfInBounds_toArray, List.set_cons_zero, List.set_cons_succ]
  refine wpAnyP_take 9 (some 36) rfl rfl (by kernel_rfl) (by kernel_rfl) (by kernel_rfl) (by kernel_rfl) (fun _ _ _ h => h) hS (Or.inl ⟨by rfl, by intro wx hx; obtain ⟨x1, x2, x3, x4⟩ := hx; go_simp <;> with_reducible rfl⟩) ?_
  try simp only [Act.put, List.setIfInBounds_toArray, List.set_cons_zero, List.set_cons_succ]
  refine wpAnyP_free 11 (some 38) rfl rfl (by kernel_rfl) (by kernel_rfl) (by kernel_rfl) (fun _ _ _ h => h) (Or.inl ⟨by rfl, by intro wx _; go_simp <;> with_reducible rfl⟩) ?_
  try simp only [Act.put, List.setIfInBounds_toArray, List.set_cons_zero, List.set_cons_succ]
  refine wpAnyP_take 12 (some 39) rfl rfl (by kernel_rfl) (by kernel_rfl) (by kernel_rfl) (by kernel_rfl) (fun _ _ _ h => h) hS (Or.inl ⟨by rfl, by intro wx hx; obtain ⟨x1, x2, x3, x4⟩ := hx; go_simp <;> with_reducible rfl⟩) ?_
  try simp only [Act.put, List.setIfInBounds_toArray, List.set_cons_zero, List.set_cons_succ]
  refine wpAnyP_one 2 rfl (by kernel_rfl) (fun KK hKK => ?_)
  go_simp
  refine (handleC self _ f0 f1).mono ?_
  rintro e w' ⟨rfl, rfl⟩
  go_simp
  have hbS : Below w2.heap.size w2 (w2.alloc (.cells #[.int .u8 (self % 4), .int .u8 0, .int .u8 0, .int .u8 0, .int .u8 0, .int .u8 0, .int .u8 0, .int .u8 0] 28)).drew := ((Below.refl _ w2).alloc (Nat.le_refl _) _).drew
  refine hKK.out _ _ (hS0.later (hbS.mono hzB2)) (fun h => ?_)
  replace hS := h
  clear hKK KK
  try simp only [Act.put, List.setIfInBounds_toArray, List.set_cons_zero, List.set_cons_succ]
  refine wpAnyP_one 5 rfl (by kernel_rfl) (fun KK hKK => ?_)
  go_simp
  refine (handleC s _ s0 s1).mono ?_
  rintro e w' ⟨rfl, rfl⟩
  go_simp
  replace hbS : Below w2.heap.size w2 ((w2.alloc (.cells #[.int .u8 (self % 4), .int .u8 0, .int .u8 0, .int .u8 0, .int .u8 0, .int .u8 0, .int .u8 0, .int .u8 0] 28)).alloc (.cells #[.int .u8 (s % 4), .int .u8 0, .int .u8 0, .int .u8 0, .int .u8 0, .int .u8 0, .int .u8 0, .int .u8 0] 28)).drew := (((Below.refl _ w2).alloc (Nat.le_refl _) _).alloc (by simp) _).drew
  refine hKK.out _ _ (hS0.later (hbS.mono hzB2)) (fun h => ?_)
  replace hS := h
  clear hKK KK
  try simp only [Act.put, List.setIfInBounds_toArray, List.set_cons_zero, List.set_cons_succ]
  refine wpAnyP_one 10 rfl (by kernel_rfl) (fun KK hKK => ?_)
  go_simp
  refine (handlesC aA lA cA XA _ hlA (by exact (HBA.out.later (hB2.trans (hbS.mono hB2.size))).up (Nat.le_trans hB2.size hbS.size))).mono ?_
  rintro e w3 ⟨ao1, c1, rfl, hl1, hb3⟩
  go_simp
  replace hbS := hbS.trans (hb3.mono hbS.size)
  refine hKK.out _ _ (hS0.later (hbS.mono hzB2)) (fun h => ?_)
  replace hS := h
  clear hKK KK
  try simp only [Act.put, List.setIfInBounds_toArray, List.set_cons_zero, List.set_cons_succ]
  refine wpAnyP_one 13 rfl (by kernel_rfl) (fun KK hKK => ?_)
  go_simp
  refine (handlesC aR lR cR XR _ hlR (by exact (HBR.out.later (hB2.trans (hbS.mono hB2.size))).up (Nat.le_trans hB2.size hbS.size))).mono ?_
  rintro e w4 ⟨ao2, c2, rfl, hl2, hb4⟩
  go_simp
  replace hbS := hbS.trans (hb4.mono hbS.size)
  refine hKK.out _ _ (hS0.later (hbS.mono hzB2)) (fun h => ?_)
  replace hS := h
  clear hKK KK
  try simp only [Act.put, List.setIfInBounds_toArray, List.set_cons_zero, List.set_cons_succ]
  refine wpAnyP_free 14 (some 41) rfl rfl (by kernel_rfl) (by kernel_rfl) (by kernel_rfl) (fun _ _ _ h => h) (Or.inl ⟨by rfl, by intro wx _; go_simp <;> with_reducible rfl⟩) ?_
  try simp only [Act.put, List.setIfInBounds_toArray, List.set_cons_zero, List.set_cons_succ]
  refine wpAnyP_free 15 (some 42) rfl rfl (by kernel_rfl) (by kernel_rfl) (by kernel_rfl) (fun _ _ _ h => h) (Or.inl ⟨by rfl, by intro wx _; go_simp <;> with_reducible rfl⟩) ?_
  try simp only [Act.put, List.setIfInBounds_toArray, List.set_cons_zero, List.set_cons_succ]
  refine wpAnyP_one 16 rfl (by kernel_rfl) (fun KK hKK => ?_)
  go_simp
  have HADD := addWalk w1.heap.size (w1.heap.size + 1) ms (specs P len) ao cap (self % 4) (s % 4) k ao1 ao2 c1 c2 (m4 XA lA) (m4 XR lR) w4 (HRES.out.later hbS) (by rw [specs_length]; exact hlen) (by rw [m4_length]; exact hlA) (by rw [m4_length]; exact hlR) (hl1.keep (Keep28.below hb4)).zero hl2.zero
  rw [m4_length, m4_length] at HADD
  refine HADD.mono ?_
  rintro e w5 ⟨rfl, hb5, ms', ao', cap', hres5⟩
  go_simp
  clear HADD
  have hS5 : SC w.heap.size (.int .u8 s) (.int .u32 k) (.slice aA lA cA) (.slice aR lR cR) w5 := (hS0.later (hbS.mono hzB2)).later (hb5.mono hzB1)
  refine hKK.out _ _ hS5 (fun _ => ?_)
  clear hKK KK
  try simp only [Act.put, List.setIfInBounds_toArray, List.set_cons_zero, List.set_cons_succ]
  refine wpAnyP_done (by kernel_rfl) (NoPanic.normal ?_) _
  obtain ⟨l, hl⟩ : ∃ l, l = addC (self % 4) (specs P len) (s % 4, k, m4 XA lA, m4 XR lR) := ⟨_, rfl⟩
  rw [← hl] at hres5
  have HL5 : Hid (l = addC (self % 4) (specs P len) (s % 4, k, m4 XA lA, m4 XR lR)) := hl
  have HR5 : Hid (ResC w5 w1.heap.size (w1.heap.size + 1) ms' l ao' cap') := hres5
  have hB5 : Below w.heap.size w w5 := hB2.trans ((hbS.mono hB2.size).trans (hb5.mono hB1.size))
  have hz5 : w1.heap.size < w5.heap.size := Nat.lt_of_lt_of_le hres5.low hres5.fits
  have hll : l.length = len ∨ l.length = len + 1 := by have := addC_length (self % 4) (specs P len) (s % 4, k, m4 XA lA, m4 XR lR); rw [specs_length, ← hl] at this; exact this
  have HPRE : Hid (∀ i, i < len → l[i]? = some (P i).spec) := fun i hi => by rw [hl, addC_pre _ _ _ _ (by rw [specs_length]; exact hi)]; exact specs_getElem P len i hi
  clear hl hres5 hS hS0 hbS hb5 hl1 hl2 hb3 hb4
  go_upto_block 0 with (go_at_call 17; refine (prefixC w1.heap.size (w1.heap.size + 1) len cap' cp ms' l P ao' a _ hlen HR5.out (by omega) (by omega) HPRE.out ((HP.out.later hB5).up' hB5.size) HPS.out).mono ?_; rintro e w6 ⟨rfl, hb6⟩; have hS6 : SC w.heap.size (.int .u8 s) (.int .u32 k) (.slice aA lA cA) (.slice aR lR cR) w6 := hS5.later (hb6.mono (by omega)); obtain ⟨x0, x1, x2, x3⟩ := hS6)
  have hB6 : Below w.heap.size w w6 := hB5.trans (hb6.mono hB5.size)
  have HR6 : Hid (ResC w6 w1.heap.size (w1.heap.size + 1) ms' l ao' cap') := HR5.out.later hb6
  have hz6 : w1.heap.size < w6.heap.size := Nat.lt_of_lt_of_le hz5 hb6.size
  have cR6 : w6.cell? ⟨w1.heap.size, 3, none⟩ = some (.slice ao' ms'.length cap') := by rw [cell_of_row w6 w1.heap.size 3 _ 46 (0, 0) HR6.out.blk]; rfl
  have hml6 := HR6.out.len
  have hz60 : w.heap.size < w6.heap.size := by omega
  obtain ⟨U, hU⟩ : ∃ U, U = undC (s % 4) (self % 4) (specs P len) := ⟨_, rfl⟩
  have HUE : Hid (U = undC (s % 4) (self % 4) (specs P len)) := hU
  clear hU
  obtain ⟨n, hn⟩ : ∃ n, n = ms'.length := ⟨_, rfl⟩
  rw [← hn] at cR6
  go_cut [10, 11, 13] from 51 to 94 (fun _ _ _ wx => ∃ Sn, BB w6 wx U Sn)
  case first =>
    go_wp2_with fail
    go_loopg [10] (len + 1) (fun g i wr => ∃ (j : Nat) (v : Int) (U' Sn : List Int), g = j + 1 ∧ j ≤ len ∧ i = .int .i64 v ∧ v = (j : Int) - 1 ∧ undR (s % 4) (self % 4) ((specs P len).take j).reverse U' Sn = U ∧ BB w6 wr U' Sn)
    case atStart =>
      refine ⟨len, _, [], [], rfl, Nat.le_refl _, rfl, rfl, ?_, BB.start w6⟩
      have e : (specs P len).take len = specs P len := by
        have := List.take_length (l := specs P len)
        rwa [specs_length] at this
      rw [HUE.out, e]; rfl
    case round =>
      obtain ⟨j, v, U', Sn, rfl, hj, rfl, hvj, hinv, hu⟩ := hrel
      have HI : Hid (undR (s % 4) (self % 4) ((specs P len).take j).reverse U' Sn = U) := hinv
      have HB : Hid (BB w6 wr U' Sn) := hu
      have hbel := hu.bel
      have hbig := hu.big
      clear hinv hu
      by_cases hlt : 0 < j
      · obtain ⟨t, rfl⟩ : ∃ t, j = t + 1 := ⟨j - 1, by omega⟩
        obtain rfl : v = (t : Int) := by omega
        have hBr : Below w.heap.size w wr := hB6.trans (hbel.mono hB6.size)
        obtain ⟨b, off, rfl, hbB, hc⟩ := HP.out (by omega)
        obtain ⟨hcells0, hok⟩ := hc t (by omega)
        have hcells := hcells0.later hBr hbB
        clear hcells0
        have hlR' := (HPS.out t (by omega)).2
        have HS : Hid (((specs P len).take (t + 1)).reverse = (P t).spec :: ((specs P len).take t).reverse) := take_rev _ t _ (specs_getElem P len t (by omega))
        clear hc hvj
        generalize P t = r at *
        obtain ⟨s', k', aA', lA', cA', XA', aR', lR', cR', XR'⟩ := r
        obtain ⟨d0, d1, d2, d3⟩ := hcells
        obtain ⟨q0, q1, _, _, _, hBR'⟩ := hok
        simp only [Raw.spec] at HS d0 d1 d2 d3 q0 q1 hBR' hlR'
        have HBR' : Hid (BY w.heap.size w aR' lR' XR') := hBR'
        clear hBR'
        have e0 := (hbel.cell (p := ⟨w.heap.size, 0, none⟩) hz60).trans x0
        have hi0 : (0 : Int) ≤ (t : Int) := by omega
        have hi1 : (t : Int) < (len : Int) := by omega
        have hzw : w.heap.size < wr.heap.size := by omega
        have hbw : b < wr.heap.size := by omega
        have hW1 : Below wr.heap.size wr (wr.alloc (.cells #[.int .u8 s', .int .u32 k', .slice aA' lA' cA', .slice aR' lR' cR'] 53)) := (Below.refl _ _).alloc (Nat.le_refl _) _
        have HBW : Hid (BB w6 (wr.alloc (.cells #[.int .u8 s', .int .u32 k', .slice aA' lA' cA', .slice aR' lR' cR'] 53)) U' Sn) := HB.out.later hW1
        have HC1 := fun y y0 y1 => cinLoop aR' lR' cR' XR' y (wr.alloc (.cells #[.int .u8 s', .int .u32 k', .slice aA' lA' cA', .slice aR' lR' cR'] 53)) hlR' ((HBR'.out.later (hBr.trans (hW1.mono (by omega)))).up (by simp; omega)) y0 y1
        have HCS := HC1 s s0 s1
        have HCM := HC1 self f0 f1
        clear HC1
        by_cases hsd : s' % 4 = s % 4
        · have hdd : (s' % 4 != s % 4) = false := by simp [hsd]
          cases hin : inB XR' lR' self
          · rw [hin] at HCM
            have hnm : ¬ self % 4 ∈ m4 XR' lR' := fun h => by rw [← inB_iff, hin] at h; cases h
            have HR : Hid (undR (s % 4) (self % 4) ((specs P len).take t).reverse (undIn Sn (m4 XR' lR') U') Sn = U) := by
              have := HI.out
              rw [HS.out] at this
              simp only [undR, if_pos hsd, if_neg hnm] at this
              exact this
            clear hnm
            go_wp2_with (go_at_call 18; refine HCM.mono ?_; rintro e w' ⟨rfl, he⟩; rw [he]; clear he w')
            have hW1s := hW1.size
            clear d0 d1 d2 d3 e0 HCS HCM
            go_loopg [82] (lR' + 1) (fun g i wq => ∃ q : Nat, g = lR' + 1 - q ∧ q ≤ lR' ∧ i = .int .i64 q ∧ BB w6 wq (undIn Sn ((m4 XR' lR').take q) U') Sn)
            case atStart => exact ⟨0, rfl, Nat.zero_le _, rfl, HBW.out⟩
            case round =>
              obtain ⟨q, rfl, hq, rfl, hbq⟩ := hrel
              have HQ : Hid (BB w6 wr (undIn Sn ((m4 XR' lR').take q) U') Sn) := hbq
              have hbelq := hbq.bel
              have hbigq := hbq.big
              clear hbq
              by_cases hql : q < lR'
              · obtain ⟨b2, off2, rfl, hb2, hc2⟩ := HBR'.out (by omega)
                obtain ⟨g2, y0, y1⟩ := hc2 q hql
                have g2' := ((hB6.trans (hbelq.mono hB6.size)).cell (p := ⟨b2, off2 + q, none⟩) hb2).trans g2
                have HTK : Hid (undIn Sn ((m4 XR' lR').take (q + 1)) U' = (if XR' q % 4 ∈ Sn then undIn Sn ((m4 XR' lR').take q) U' else ins (undIn Sn ((m4 XR' lR').take q) U') (XR' q % 4))) := by
                  have := undIn_take Sn (m4 XR' lR') U' q (by rw [m4_length]; exact hql)
                  rwa [m4_getD XR' lR' q hql] at this
                clear hc2 g2
                generalize XR' q = z at g2' y0 y1 HTK
                have hy0 : 0 ≤ z % 4 := by omega
                have hy1 : z % 4 < 4 := by omega
                have hcS := HQ.out.atS (z % 4) hy0 hy1
                have hcU := HQ.out.atU (z % 4) hy0 hy1
                have hfU := frozen_of_row _ w6.heap.size (z % 4).toNat _ 59 HQ.out.bu
                have hj0 : (0 : Int) ≤ (q : Int) := by omega
                have hj1 : (q : Int) < (lR' : Int) := by omega
                by_cases hm : z % 4 ∈ Sn
                · have hd : decide (z % 4 ∈ Sn) = true := by simpa using hm
                  rw [hd] at hcS
                  have HT : Hid (undIn Sn ((m4 XR' lR').take (q + 1)) U' = undIn Sn ((m4 XR' lR').take q) U') := by
                    have := HTK.out
                    rw [if_pos hm] at this
                    exact this
                  clear hm hd
                  go_wp2
                  go_roundg (lR' + 1 - (q + 1))
                  case measure => omega
                  case rel => exact ⟨q + 1, rfl, by omega, by go_num, by rw [HT.out]; exact HQ.out⟩
                · have hd : decide (z % 4 ∈ Sn) = false := by simpa using hm
                  rw [hd] at hcS
                  have HT : Hid (undIn Sn ((m4 XR' lR').take (q + 1)) U' = ins (undIn Sn ((m4 XR' lR').take q) U') (z % 4)) := by
                    have := HTK.out
                    rw [if_neg hm] at this
                    exact this
                  clear hm hd
                  go_wp2
                  go_roundg (lR' + 1 - (q + 1))
                  case measure => omega
                  case rel => exact ⟨q + 1, rfl, by omega, by go_num, by rw [HT.out]; exact HQ.out.setU _ hy0 hy1⟩
              · obtain rfl : q = lR' := by omega
                have HQ' : Hid (BB w6 wr (undIn Sn (m4 XR' q) U') Sn) := by
                  have := HQ.out
                  have e : (m4 XR' q).take q = m4 XR' q := by
                    have := List.take_length (l := m4 XR' q)
                    rwa [m4_length] at this
                  rw [e] at this
                  exact this
                clear HQ
                go_wp2
                go_roundg (t + 1)
                case measure => omega
                case rel => exact ⟨t, _, undIn Sn (m4 XR' q) U', Sn, rfl, by omega, rfl, rfl, HR.out, HQ'.out⟩
          · rw [hin] at HCM
            have hnm : self % 4 ∈ m4 XR' lR' := (inB_iff _ _ _).1 hin
            have HR : Hid (undR (s % 4) (self % 4) ((specs P len).take t).reverse U' Sn = U) := by
              have := HI.out
              rw [HS.out] at this
              simp only [undR, if_pos hsd, if_pos hnm] at this
              exact this
            clear hnm
            go_wp2_with (go_at_call 18; refine HCM.mono ?_; rintro e w' ⟨rfl, he⟩; rw [he]; clear he w')
            go_roundg (t + 1)
            case measure => omega
            case rel => exact ⟨t, _, U', Sn, rfl, by omega, rfl, rfl, HR.out, HBW.out⟩
        · have hdd : (s' % 4 != s % 4) = true := by simp [hsd]
          cases hin : inB XR' lR' s
          · rw [hin] at HCS
            have hnm : ¬ s % 4 ∈ m4 XR' lR' := fun h => by rw [← inB_iff, hin] at h; cases h
            have HR : Hid (undR (s % 4) (self % 4) ((specs P len).take t).reverse U' (ins Sn (s' % 4)) = U) := by
              have := HI.out
              rw [HS.out] at this
              simp only [undR, if_neg hsd, if_neg hnm] at this
              exact this
            clear hnm
            have hy0 : 0 ≤ s' % 4 := by omega
            have hy1 : s' % 4 < 4 := by omega
            have hcS := HBW.out.atS (s' % 4) hy0 hy1
            have hfS := frozen_of_row _ (w6.heap.size + 1) (s' % 4).toNat _ 59 HBW.out.bs
            go_wp2_with (go_at_call 18; refine HCS.mono ?_; rintro e w' ⟨rfl, he⟩; rw [he]; clear he w')
            go_roundg (t + 1)
            case measure => omega
            case rel => exact ⟨t, _, U', ins Sn (s' % 4), rfl, by omega, rfl, rfl, HR.out, (HB.out.setS _ hy0 hy1).later ((Below.refl _ _).alloc (Nat.le_refl _) _)⟩
          · rw [hin] at HCS
            have hnm : s % 4 ∈ m4 XR' lR' := (inB_iff _ _ _).1 hin
            have HR : Hid (U' = U) := by
              have := HI.out
              rw [HS.out] at this
              simp only [undR, if_neg hsd, if_pos hnm] at this
              exact this
            clear hnm
            go_wp2_with (go_at_call 18; refine HCS.mono ?_; rintro e w' ⟨rfl, he⟩; rw [he]; clear he w')
            go_meet
            exact ⟨Sn, by rw [← HR.out]; exact HBW.out⟩
      · obtain rfl : j = 0 := by omega
        have hvn : ¬ v ≥ 0 := by omega
        have hvd : decide (v ≥ 0) = false := by simpa using hvn
        have HR : Hid (U' = U) := HI.out
        clear hvj
        go_wp2
        go_meet
        exact ⟨Sn, by rw [← HR.out]; exact HB.out⟩
  case rest =>
    obtain ⟨Sn, hu⟩ := hcut
    have HU0 : Hid (BB w6 wc U Sn) := hu
    have hBc : Below w.heap.size w wc := hB6.trans (hu.bel.mono hB6.size)
    have e0 := (hu.bel.cell (p := ⟨w.heap.size, 0, none⟩) hz60).trans x0
    have e1 := (hu.bel.cell (p := ⟨w.heap.size, 1, none⟩) hz60).trans x1
    have e2 := (hu.bel.cell (p := ⟨w.heap.size, 2, none⟩) hz60).trans x2
    have e3 := (hu.bel.cell (p := ⟨w.heap.size, 3, none⟩) hz60).trans x3
    clear hu
    obtain ⟨i5, hi5, hz50, hz51, hz52⟩ := info5parts
    go_wp2_with fail
    go_loopg [14, 98] (lA + 1) (fun g v i wr => ∃ kk : Nat, g = lA + 1 - kk ∧ kk ≤ lA ∧ i = .int .i64 kk ∧ ∃ ao c m, v = .slice ao m c ∧ m = (keptX U XA kk).length ∧ wr.ownsRow wc.heap.size 5 1 (.slice ao m c) m ((keptX U XA kk).map (Value.int .u8)) ∧ Below wc.heap.size wc wr)
    case atStart => exact ⟨0, rfl, Nat.zero_le _, rfl, none, 0, 0, rfl, rfl, World.ownsRow_nil _ _ _ _, Below.refl _ _⟩
    case round =>
      obtain ⟨kk, rfl, hk3, rfl, ao3, cc3, mm3, rfl, hme, hown, hbel⟩ := hrel
      have hmk : mm3 ≤ kk := by rw [hme]; exact keptX_le U XA kk
      have HME : Hid (mm3 = (keptX U XA kk).length) := hme
      have HOWN : Hid (wr.ownsRow wc.heap.size 5 1 (.slice ao3 mm3 cc3) mm3 ((keptX U XA kk).map (Value.int .u8))) := hown
      clear hme hown
      have hzr := hbel.size
      by_cases hlt : kk < lA
      · obtain ⟨b2, off2, rfl, hb2, hc2⟩ := HBA.out (by omega)
        obtain ⟨g2, y0, y1⟩ := hc2 kk hlt
        have g2' := ((hBc.trans (hbel.mono hBc.size)).cell (p := ⟨b2, off2 + kk, none⟩) hb2).trans g2
        have HK : Hid (keptX U XA (kk + 1) = keptX U XA kk ++ (if XA kk % 4 ∈ U then [] else [XA kk])) := keptX_succ U XA kk
        clear hc2 g2
        generalize XA kk = z at g2' y0 y1 HK
        have hy0 : 0 ≤ z % 4 := by omega
        have hy1 : z % 4 < 4 := by omega
        have hcU := (HU0.out.later hbel).atU (z % 4) hy0 hy1
        have hj0 : (0 : Int) ≤ (kk : Int) := by omega
        have hj1 : (kk : Int) < (lA : Int) := by omega
        by_cases hm : z % 4 ∈ U
        · have hd : decide (z % 4 ∈ U) = true := by simpa using hm
          rw [hd] at hcU
          have HT : Hid (keptX U XA (kk + 1) = keptX U XA kk) := by
            have := HK.out
            rw [if_pos hm, List.append_nil] at this
            exact this
          clear hm hd
          go_wp2
          go_roundg (lA + 1 - (kk + 1))
          case measure => omega
          case rel => exact ⟨kk + 1, rfl, by omega, by go_num, ao3, cc3, mm3, rfl, by rw [HT.out]; exact HME.out, by rw [HT.out]; exact HOWN.out, hbel⟩
        · have hd : decide (z % 4 ∈ U) = false := by simpa using hm
          rw [hd] at hcU
          have HT : Hid (keptX U XA (kk + 1) = keptX U XA kk ++ [z]) := by
            have := HK.out
            rw [if_neg hm] at this
            exact this
          clear hm hd
          go_wp2_with (at_builtin; refine wpList_append_lies _ rfl (.tmp 107) (.tmp 109) 39 rfl wc.heap.size 5 i5 (.int .u8 0) 1 1 Yba.underlying39 hi5 hz50 hz51 hz52 rfl (by omega) (.slice ao3 mm3 cc3) mm3 ((keptX U XA kk).map (Value.int .u8)) rfl (HOWN.out.alloc _) ⟨wr.heap.size, 0, none⟩ 1 1 [.int .u8 z] rfl rfl (news1 wr [.int .u8 z] 5) (by intro u hu; simp at hu; subst hu; rfl) (by omega) (by unfold maxLen; omega) (by omega) (by simp; omega) (wr.heap.size + 1) (by simp) ?_; intro g1 cap1 w10 hown1 hgrow hat hlt1)
          have hb10 : Below wc.heap.size wc w10 := Below.grown (hbel.alloc hzr _) hgrow (by simp; omega) (fun k hk => (HOWN.out.lt k hk).1)
          have e : (keptX U XA kk).map (Value.int .u8) ++ [.int .u8 z] = (keptX U XA (kk + 1)).map (Value.int .u8) := by rw [HT.out, List.map_append]; rfl
          rw [e] at hown1
          clear hgrow hat hlt1 e
          go_wp2
          go_roundg (lA + 1 - (kk + 1))
          case measure => omega
          case rel => exact ⟨kk + 1, rfl, by omega, by go_num, some ⟨g1, 0, none⟩, cap1, mm3 + 1, rfl, by rw [HT.out, List.length_append, ← HME.out]; rfl, hown1, hb10⟩
      · obtain rfl : lA = kk := by omega
        have hB3 : Below w.heap.size w wr := hBc.trans (hbel.mono hBc.size)
        have HBB3 : Hid (BB w6 wr U Sn) := HU0.out.later hbel
        have HE3 : Hid (BY wr.heap.size wr ao3 mm3 (fun i => (keptX U XA lA).getD i 0)) := by
          have h1 := HOWN.out
          rw [HME.out] at h1
          have h2 := BY.ofOwn h1 (fun z hz => by
            obtain ⟨i, hi, rfl⟩ := keptX_mem U XA lA z hz
            obtain ⟨_, _, _, _, hq⟩ := HBA.out (by omega)
            exact (hq i hi).2)
          rw [← HME.out] at h2
          exact h2
        have hbel3 := hbel
        have hm3 : mm3 ≤ lA := hmk
        have HM3 : Hid (mm3 = (keptX U XA lA).length) := HME.out
        clear HOWN hmk HME
        obtain ⟨w93, hw9⟩ : ∃ w9, w9 = wr := ⟨_, rfl⟩
        subst hw9
        have hzc : w.heap.size < wc.heap.size := Nat.lt_of_lt_of_le hz60 HU0.out.bel.size
        have v0 := (hbel3.cell (p := ⟨w.heap.size, 0, none⟩) hzc).trans e0
        have v1 := (hbel3.cell (p := ⟨w.heap.size, 1, none⟩) hzc).trans e1
        have v2 := (hbel3.cell (p := ⟨w.heap.size, 2, none⟩) hzc).trans e2
        have v3 := (hbel3.cell (p := ⟨w.heap.size, 3, none⟩) hzc).trans e3
        clear e0 e1 e2 e3 hbel hzr
        go_wp2_with fail
        go_loopg [15, 115] (lR + 1) (fun g v i wr => ∃ kk : Nat, g = lR + 1 - kk ∧ kk ≤ lR ∧ i = .int .i64 kk ∧ ∃ ao c m, v = .slice ao m c ∧ m = (keptX U XR kk).length ∧ wr.ownsRow w93.heap.size 5 1 (.slice ao m c) m ((keptX U XR kk).map (Value.int .u8)) ∧ Below w93.heap.size w93 wr)
        case atStart => exact ⟨0, rfl, Nat.zero_le _, rfl, none, 0, 0, rfl, rfl, World.ownsRow_nil _ _ _ _, Below.refl _ _⟩
        case round =>
          obtain ⟨kk, rfl, hk4, rfl, ao4, cc4, mm4, rfl, hme, hown, hbel⟩ := hrel
          have hmk : mm4 ≤ kk := by rw [hme]; exact keptX_le U XR kk
          have HME : Hid (mm4 = (keptX U XR kk).length) := hme
          have HOWN : Hid (wr.ownsRow w93.heap.size 5 1 (.slice ao4 mm4 cc4) mm4 ((keptX U XR kk).map (Value.int .u8))) := hown
          clear hme hown
          have hzr := hbel.size
          by_cases hlt : kk < lR
          · obtain ⟨b2, off2, rfl, hb2, hc2⟩ := HBR.out (by omega)
            obtain ⟨g2, y0, y1⟩ := hc2 kk hlt
            have g2' := ((hB3.trans (hbel.mono hB3.size)).cell (p := ⟨b2, off2 + kk, none⟩) hb2).trans g2
            have HK : Hid (keptX U XR (kk + 1) = keptX U XR kk ++ (if XR kk % 4 ∈ U then [] else [XR kk])) := keptX_succ U XR kk
            clear hc2 g2
            generalize XR kk = z at g2' y0 y1 HK
            have hy0 : 0 ≤ z % 4 := by omega
            have hy1 : z % 4 < 4 := by omega
            have hcU := (HBB3.out.later hbel).atU (z % 4) hy0 hy1
            have hj0 : (0 : Int) ≤ (kk : Int) := by omega
            have hj1 : (kk : Int) < (lR : Int) := by omega
            by_cases hm : z % 4 ∈ U
            · have hd : decide (z % 4 ∈ U) = true := by simpa using hm
              rw [hd] at hcU
              have HT : Hid (keptX U XR (kk + 1) = keptX U XR kk) := by
                have := HK.out
                rw [if_pos hm, List.append_nil] at this
                exact this
              clear hm hd
              go_wp2
              go_roundg (lR + 1 - (kk + 1))
              case measure => omega
              case rel => exact ⟨kk + 1, rfl, by omega, by go_num, ao4, cc4, mm4, rfl, by rw [HT.out]; exact HME.out, by rw [HT.out]; exact HOWN.out, hbel⟩
            · have hd : decide (z % 4 ∈ U) = false := by simpa using hm
              rw [hd] at hcU
              have HT : Hid (keptX U XR (kk + 1) = keptX U XR kk ++ [z]) := by
                have := HK.out
                rw [if_neg hm] at this
                exact this
              clear hm hd
              go_wp2_with (at_builtin; refine wpList_append_lies _ rfl (.tmp 124) (.tmp 126) 39 rfl w93.heap.size 5 i5 (.int .u8 0) 1 1 Yba.underlying39 hi5 hz50 hz51 hz52 rfl (by omega) (.slice ao4 mm4 cc4) mm4 ((keptX U XR kk).map (Value.int .u8)) rfl (HOWN.out.alloc _) ⟨wr.heap.size, 0, none⟩ 1 1 [.int .u8 z] rfl rfl (news1 wr [.int .u8 z] 5) (by intro u hu; simp at hu; subst hu; rfl) (by omega) (by unfold maxLen; omega) (by omega) (by simp; omega) (wr.heap.size + 1) (by simp) ?_; intro g1 cap1 w10 hown1 hgrow hat hlt1)
              have hb10 : Below w93.heap.size w93 w10 := Below.grown (hbel.alloc hzr _) hgrow (by simp; omega) (fun k hk => (HOWN.out.lt k hk).1)
              have e : (keptX U XR kk).map (Value.int .u8) ++ [.int .u8 z] = (keptX U XR (kk + 1)).map (Value.int .u8) := by rw [HT.out, List.map_append]; rfl
              rw [e] at hown1
              clear hgrow hat hlt1 e
              go_wp2
              go_roundg (lR + 1 - (kk + 1))
              case measure => omega
              case rel => exact ⟨kk + 1, rfl, by omega, by go_num, some ⟨g1, 0, none⟩, cap1, mm4 + 1, rfl, by rw [HT.out, List.length_append, ← HME.out]; rfl, hown1, hb10⟩
          · obtain rfl : lR = kk := by omega
            have hB4 : Below w.heap.size w wr := hB3.trans (hbel.mono hB3.size)
            have HBB4 : Hid (BB w6 wr U Sn) := HBB3.out.later hbel
            have HE4 : Hid (BY wr.heap.size wr ao4 mm4 (fun i => (keptX U XR lR).getD i 0)) := by
              have h1 := HOWN.out
              rw [HME.out] at h1
              have h2 := BY.ofOwn h1 (fun z hz => by
                obtain ⟨i, hi, rfl⟩ := keptX_mem U XR lR z hz
                obtain ⟨_, _, _, _, hq⟩ := HBR.out (by omega)
                exact (hq i hi).2)
              rw [← HME.out] at h2
              exact h2
            have hbel4 := hbel
            have hm4 : mm4 ≤ lR := hmk
            have HM4 : Hid (mm4 = (keptX U XR lR).length) := HME.out
            clear HOWN hmk HME
            obtain ⟨w94, hw9⟩ : ∃ w9, w9 = wr := ⟨_, rfl⟩
            subst hw9
            have hzc4 : w.heap.size < w93.heap.size := Nat.lt_of_lt_of_le hzc hbel3.size
            have u0 := (hbel4.cell (p := ⟨w.heap.size, 0, none⟩) hzc4).trans v0
            have u1 := (hbel4.cell (p := ⟨w.heap.size, 1, none⟩) hzc4).trans v1
            have u2 := (hbel4.cell (p := ⟨w.heap.size, 2, none⟩) hzc4).trans v2
            have u3 := (hbel4.cell (p := ⟨w.heap.size, 3, none⟩) hzc4).trans v3
            have hzd : w.heap.size < w94.heap.size := Nat.lt_of_lt_of_le hzc4 hbel4.size
            have hz14 : w1.heap.size < w94.heap.size := Nat.lt_of_lt_of_le hz6 HBB4.out.bel.size
            have cR9 := (HBB4.out.bel.cell (p := ⟨w1.heap.size, 3, none⟩) hz6).trans cR6
            have HR9 : Hid (ResC w94 w1.heap.size (w1.heap.size + 1) ms' l ao' cap') := HR6.out.later HBB4.out.bel
            have HE3W : Hid (BY w94.heap.size w94 ao3 mm3 (fun i => (keptX U XA lA).getD i 0)) := (HE3.out.later hbel4).up hbel4.size
            have hadd : l = if 0 < lA + lR ∧ mm3 + mm4 = 0 then specs P len else specs P len ++ [(s % 4, k, m4 (fun i => (keptX U XA lA).getD i 0) mm3, m4 (fun i => (keptX U XR lR).getD i 0) mm4)] := by
              rw [HL5.out, addC, HM3.out, HM4.out, keptX_m4, keptX_m4]
              simp only [m4_length, ← HUE.out, ← keptX_length]
            generalize (fun i => (keptX U XA lA).getD i 0) = XE at HE3W hadd
            generalize (fun i => (keptX U XR lR).getD i 0) = XF at HE4 hadd
            clear v0 v1 v2 v3 hbel hzr HM3 HM4 HE3 HU0 HBB3 HR6 HL5 HPRE HUE cR6 x0 x1 x2 x3
            by_cases hC : 0 < lA + lR ∧ mm3 + mm4 = 0
            · rw [if_pos hC] at hadd
              obtain rfl : n = len := by rw [hn, hml6, hadd, specs_length]
              obtain ⟨hC1, hC2⟩ := hC
              obtain rfl : mm3 = 0 := by omega
              obtain rfl : mm4 = 0 := by omega
              have hd1 : (lA : Int) + (lR : Int) > 0 := by omega
              have hd2 : decide ((lA : Int) + (lR : Int) > 0) = true := by simpa using hd1
              clear hn hml6 hadd
              go_wp2
              go_ret
              exact ⟨rfl, hB4⟩
            · rw [if_neg hC] at hadd
              have hnl : l.length = len + 1 := by rw [hadd]; simp [specs_length]
              have hlast : l[len]? = some (s % 4, k, m4 XE mm3, m4 XF mm4) := by
                rw [hadd, List.getElem?_append_right (by rw [specs_length]; exact Nat.le_refl _), specs_length]; simp
              obtain ⟨m, hm⟩ : ∃ m, ms'[len]? = some m := ⟨_, List.getElem?_eq_getElem (by omega)⟩
              have hsy := HR9.out.says len m _ hm hlast
              obtain ⟨g, rfl, _, hg, hrow⟩ := HR9.out.row (by omega)
              have hrg := hrow len m hm
              have HONE : Hid (∀ u ∈ m.cells, u.oneCell' = true) := hsy.one
              obtain ⟨xm, km, va, vr⟩ := m
              obtain ⟨hx, hk, ⟨ao5, d1, f5, hl3⟩, ⟨ao6, d2, f6, hl4⟩, hsa, hsr⟩ := hsy
              simp only [m4_length] at hx hk f5 f6 hl3 hl4 hsa hsr
              subst hx hk f5 f6
              obtain rfl : n = len + 1 := by omega
              clear hn hml6 hrow hnl hlast hadd hm HR9
              have HRT : Hid (w94.rangeAt g (len * 29) (chgC (s % 4) km (.slice ao5 mm3 d1) (.slice ao6 mm4 d2))) := hrg
              obtain ⟨y0, y1, y2, y3, y4, y5, y6, y7⟩ := chgC_cells (s % 4) km (.slice ao5 mm3 d1) (.slice ao6 mm4 d2)
              have y23 : (chgC (s % 4) km (.slice ao5 mm3 d1) (.slice ao6 mm4 d2))[23]? = some (.int .u32 km) := rfl
              have y26 : (chgC (s % 4) km (.slice ao5 mm3 d1) (.slice ao6 mm4 d2))[26]? = some (.slice ao5 mm3 d1) := rfl
              have y27 : (chgC (s % 4) km (.slice ao5 mm3 d1) (.slice ao6 mm4 d2))[27]? = some (.slice ao6 mm4 d2) := rfl
              have HONE' : Hid (∀ u ∈ chgC (s % 4) km (.slice ao5 mm3 d1) (.slice ao6 mm4 d2), u.oneCell' = true) := HONE.out
              have HLN : Hid ((chgC (s % 4) km (.slice ao5 mm3 d1) (.slice ao6 mm4 d2)).length = 29) := rfl
              obtain ⟨cs, hcs⟩ : ∃ cs, cs = chgC (s % 4) km (.slice ao5 mm3 d1) (.slice ao6 mm4 d2) := ⟨_, rfl⟩
              rw [← hcs] at HRT y0 y1 y2 y3 y4 y5 y6 y7 y23 y26 y27 HONE' HLN
              have HL1 : Hid (HL w94 0 ao5 d1 (m4 XE mm3)) := hl3
              have HL2 : Hid (HL w94 0 ao6 d2 (m4 XF mm4)) := hl4
              clear HONE hrg hcs hl3 hl4
              have hi0 : (0 : Int) ≤ (len : Int) := by omega
              have hi1 : (len : Int) < ((len + 1 : Nat) : Int) := by omega
              by_cases hN : 0 < lA + lR
              · have hpos : 0 < mm3 + mm4 := by omega
                have hd1 : (lA : Int) + (lR : Int) > 0 := by omega
                have hd2 : decide ((lA : Int) + (lR : Int) > 0) = true := by simpa using hd1
                have hd3 : ((mm3 : Int) + (mm4 : Int) == 0) = false := by simp; omega
                have hd4 : decide ((mm3 : Int) + (mm4 : Int) = 0) = false := by simp; omega
                go_wp2_with (first
                  | (refine wpList_load_mid rfl 43 (.tmp 169) rfl g (len * 29) rfl cs _ HRT.out Yba.underlying43 rfl (by rw [size43, HLN.out]) ?_)
                  | (refine wpList_store_at43 rfl (.tmp 21) (.tmp 170) rfl cs _ w94.heap.size rfl rfl rfl HLN.out rfl HONE'.out ?_))
                try simp only [Act.put, List.setIfInBounds_toArray, List.set_cons_zero, List.set_cons_succ]
                obtain ⟨W, hW⟩ : ∃ W, W = w94.alloc (.cells cs.toArray 43) := ⟨_, rfl⟩
                rw [← hW]
                have hbW : Below w94.heap.size w94 W := by rw [hW]; exact (Below.refl _ _).alloc (Nat.le_refl _) _
                have hWs : W.heap.size = w94.heap.size + 1 := by rw [hW]; simp
                have hG : W.heap[w94.heap.size]? = some (.cells cs.toArray 43 (0, 0)) := by rw [hW]; exact heap_alloc_new _ _
                have qc : ∀ j, W.cell? ⟨w94.heap.size, j, none⟩ = cs[j]? := fun j => by rw [cell_of_row W w94.heap.size j _ 43 (0, 0) hG]; simp
                rw [← qc] at y0 y1 y2 y3 y4 y5 y6 y7 y23 y26 y27
                have p0 := (hbW.cell (p := ⟨w.heap.size, 0, none⟩) hzd).trans u0
                have p1 := (hbW.cell (p := ⟨w.heap.size, 1, none⟩) hzd).trans u1
                have hw0 : w.heap.size < W.heap.size := by omega
                have hw1 : w94.heap.size < W.heap.size := by omega
                clear qc hG hW hWs u0 u1 u2 u3 cR9 HRT
                refine wp_region_P (fun w' => ∀ b o, b < W.heap.size → w'.cell? ⟨b, o, none⟩ = W.cell? ⟨b, o, none⟩) (fun _ => false) (by kernel_rfl) ?_
                have hS : ∀ b o, b < W.heap.size → W.drew.cell? ⟨b, o, none⟩ = W.cell? ⟨b, o, none⟩ := fun _ _ _ => rfl
                refine wpAnyP_free 0 (some 171) rfl rfl (by kernel_rfl) (by kernel_rfl) (by kernel_rfl) (fun _ _ _ h => h) (Or.inl ⟨by rfl, by intro wx _; go_simp <;> with_reducible rfl⟩) ?_
                try simp only [Act.put, List.setIfInBounds_toArray, List.set_cons_zero, List.set_cons_succ]
                refine wpAnyP_take 1 (some 172) rfl rfl (by kernel_rfl) (by kernel_rfl) (by kernel_rfl) (by kernel_rfl) (fun _ _ _ h => h) hS (Or.inl ⟨by rfl, by intro wx hx; go_simp <;> with_reducible rfl⟩) ?_
                try simp only [Act.put, List.setIfInBounds_toArray, List.set_cons_zero, List.set_cons_succ]
                refine wpAnyP_free 2 (some 173) rfl rfl (by kernel_rfl) (by kernel_rfl) (by kernel_rfl) (fun _ _ _ h => h) (Or.inl ⟨by rfl, by intro wx _; go_simp <;> with_reducible rfl⟩) ?_
                try simp only [Act.put, List.setIfInBounds_toArray, List.set_cons_zero, List.set_cons_succ]
                refine wpAnyP_take 3 (some 174) rfl rfl (by kernel_rfl) (by kernel_rfl) (by kernel_rfl) (by kernel_rfl) (fun _ _ _ h => h) hS (Or.inl ⟨by rfl, by intro wx hx; go_simp <;> with_reducible rfl⟩) ?_
                try simp only [Act.put, List.setIfInBounds_toArray, List.set_cons_zero, List.set_cons_succ]
                refine wpAnyP_one 4 rfl (by kernel_rfl) (fun KK hKK => ?_)
                go_simp
                refine (handleC s _ s0 s1).mono ?_
                rintro e w' ⟨rfl, rfl⟩
                go_simp
                have hbS : Below W.heap.size W (W.alloc (.cells #[.int .u8 (s % 4), .int .u8 0, .int .u8 0, .int .u8 0, .int .u8 0, .int .u8 0, .int .u8 0, .int .u8 0] 28)).drew := ((Below.refl _ W).alloc (Nat.le_refl _) _).drew
                refine hKK.out _ _ (fun b o h => hbS.cell (p := ⟨b, o, none⟩) h) (fun h => ?_)
                replace hS := h
                clear hKK KK
                try simp only [Act.put, List.setIfInBounds_toArray, List.set_cons_zero, List.set_cons_succ]
                refine wpAnyP_free 5 (some 176) rfl rfl (by kernel_rfl) (by kernel_rfl) (by kernel_rfl) (fun _ _ _ h => h) (Or.inl ⟨by rfl, by intro wx _; go_simp <;> with_reducible rfl⟩) ?_
                try simp only [Act.put, List.setIfInBounds_toArray, List.set_cons_zero, List.set_cons_succ]
                refine wpAnyP_free 6 (some 177) rfl rfl (by kernel_rfl) (by kernel_rfl) (by kernel_rfl) (fun _ _ _ h => h) (Or.inl ⟨by rfl, by intro wx _; go_simp <;> with_reducible rfl⟩) ?_
                try simp only [Act.put, List.setIfInBounds_toArray, List.set_cons_zero, List.set_cons_succ]
                refine wpAnyP_free 7 (some 178) rfl rfl (by kernel_rfl) (by kernel_rfl) (by kernel_rfl) (fun _ _ _ h => h) (Or.inl ⟨by rfl, by intro wx _; go_simp <;> with_reducible rfl⟩) ?_
                try simp only [Act.put, List.setIfInBounds_toArray, List.set_cons_zero, List.set_cons_succ]
                refine wpAnyP_free 8 (some 179) rfl rfl (by kernel_rfl) (by kernel_rfl) (by kernel_rfl) (fun _ _ _ h => h) (Or.inl ⟨by rfl, by intro wx _; go_simp <;> with_reducible rfl⟩) ?_
                try simp only [Act.put, List.setIfInBounds_toArray, List.set_cons_zero, List.set_cons_succ]
                refine wpAnyP_take 9 (some 180) rfl rfl (by kernel_rfl) (by kernel_rfl) (by kernel_rfl) (by kernel_rfl) (fun _ _ _ h => h) hS (Or.inl ⟨by rfl, by intro wx hx; go_simp <;> with_reducible rfl⟩) ?_
                try simp only [Act.put, List.setIfInBounds_toArray, List.set_cons_zero, List.set_cons_succ]
                refine wpAnyP_free 10 (some 181) rfl rfl (by kernel_rfl) (by kernel_rfl) (by kernel_rfl) (fun _ _ _ h => h) (Or.inl ⟨by rfl, by intro wx _; go_simp <;> with_reducible rfl⟩) ?_
                try simp only [Act.put, List.setIfInBounds_toArray, List.set_cons_zero, List.set_cons_succ]
                refine wpAnyP_take 11 (some 182) rfl rfl (by kernel_rfl) (by kernel_rfl) (by kernel_rfl) (by kernel_rfl) (fun _ _ _ h => h) hS (Or.inl ⟨by rfl, by intro wx hx; go_simp <;> with_reducible rfl⟩) ?_
                try simp only [Act.put, List.setIfInBounds_toArray, List.set_cons_zero, List.set_cons_succ]
                refine wpAnyP_free 12 (some 183) rfl rfl (by kernel_rfl) (by kernel_rfl) (by kernel_rfl) (fun _ _ _ h => h) (Or.inl ⟨by rfl, by intro wx _; go_simp <;> with_reducible rfl⟩) ?_
                try simp only [Act.put, List.setIfInBounds_toArray, List.set_cons_zero, List.set_cons_succ]
                refine wpAnyP_free 13 (some 184) rfl rfl (by kernel_rfl) (by kernel_rfl) (by kernel_rfl) (fun _ _ _ h => h) (Or.inl ⟨by rfl, by intro wx _; go_simp <;> with_reducible rfl⟩) ?_
                try simp only [Act.put, List.setIfInBounds_toArray, List.set_cons_zero, List.set_cons_succ]
                refine wpAnyP_free 14 (some 185) rfl rfl (by kernel_rfl) (by kernel_rfl) (by kernel_rfl) (fun _ _ _ h => h) (Or.inl ⟨by rfl, by intro wx _; go_simp <;> with_reducible rfl⟩) ?_
                try simp only [Act.put, List.setIfInBounds_toArray, List.set_cons_zero, List.set_cons_succ]
                refine wpAnyP_free 15 (some 186) rfl rfl (by kernel_rfl) (by kernel_rfl) (by kernel_rfl) (fun _ _ _ h => h) (Or.inl ⟨by rfl, by intro wx _; go_simp <;> with_reducible rfl⟩) ?_
                try simp only [Act.put, List.setIfInBounds_toArray, List.set_cons_zero, List.set_cons_succ]
                refine wpAnyP_free 16 (some 187) rfl rfl (by kernel_rfl) (by kernel_rfl) (by kernel_rfl) (fun _ _ _ h => h) (Or.inl ⟨by rfl, by intro wx _; go_simp <;> with_reducible rfl⟩) ?_
                try simp only [Act.put, List.setIfInBounds_toArray, List.set_cons_zero, List.set_cons_succ]
                refine wpAnyP_take 17 (some 188) rfl rfl (by kernel_rfl) (by kernel_rfl) (by kernel_rfl) (by kernel_rfl) (fun _ _ _ h => h) hS (Or.inl ⟨by rfl, by intro wx hx; go_simp <;> with_reducible rfl⟩) ?_
                try simp only [Act.put, List.setIfInBounds_toArray, List.set_cons_zero, List.set_cons_succ]
                refine wpAnyP_free 18 (some 189) rfl rfl (by kernel_rfl) (by kernel_rfl) (by kernel_rfl) (fun _ _ _ h => h) (Or.inl ⟨by rfl, by intro wx _; go_simp <;> with_reducible rfl⟩) ?_
                try simp only [Act.put, List.setIfInBounds_toArray, List.set_cons_zero, List.set_cons_succ]
                refine wpAnyP_one 19 rfl (by kernel_rfl) (fun KK hKK => ?_)
                go_simp
                refine (ceqC ao5 d1 0 ao3 mm3 cc3 XE _ (by omega) (by exact HL1.out.keep (Keep28.below (hbW.trans (hbS.mono hbW.size)))) (by exact (HE3W.out.later (hbW.trans (hbS.mono hbW.size))).up (Nat.le_trans hbW.size hbS.size))).mono ?_
                rintro e w11 ⟨rfl, hb11⟩
                go_simp
                replace hbS := hbS.trans (hb11.mono hbS.size)
                refine hKK.out _ _ (fun b o h => hbS.cell (p := ⟨b, o, none⟩) h) (fun h => ?_)
                replace hS := h
                clear hKK KK
                try simp only [Act.put, List.setIfInBounds_toArray, List.set_cons_zero, List.set_cons_succ]
                refine wpAnyP_free 20 (some 191) rfl rfl (by kernel_rfl) (by kernel_rfl) (by kernel_rfl) (fun _ _ _ h => h) (Or.inl ⟨by rfl, by intro wx _; go_simp <;> with_reducible rfl⟩) ?_
                try simp only [Act.put, List.setIfInBounds_toArray, List.set_cons_zero, List.set_cons_succ]
                refine wpAnyP_free 21 (some 192) rfl rfl (by kernel_rfl) (by kernel_rfl) (by kernel_rfl) (fun _ _ _ h => h) (Or.inl ⟨by rfl, by intro wx _; go_simp <;> with_reducible rfl⟩) ?_
                try simp only [Act.put, List.setIfInBounds_toArray, List.set_cons_zero, List.set_cons_succ]
                refine wpAnyP_free 22 (some 193) rfl rfl (by kernel_rfl) (by kernel_rfl) (by kernel_rfl) (fun _ _ _ h => h) (Or.inl ⟨by rfl, by intro wx _; go_simp <;> with_reducible rfl⟩) ?_
                try simp only [Act.put, List.setIfInBounds_toArray, List.set_cons_zero, List.set_cons_succ]
                refine wpAnyP_free 23 (some 194) rfl rfl (by kernel_rfl) (by kernel_rfl) (by kernel_rfl) (fun _ _ _ h => h) (Or.inl ⟨by rfl, by intro wx _; go_simp <;> with_reducible rfl⟩) ?_
                try simp only [Act.put, List.setIfInBounds_toArray, List.set_cons_zero, List.set_cons_succ]
                refine wpAnyP_take 24 (some 195) rfl rfl (by kernel_rfl) (by kernel_rfl) (by kernel_rfl) (by kernel_rfl) (fun _ _ _ h => h) hS (Or.inl ⟨by rfl, by intro wx hx; go_simp <;> with_reducible rfl⟩) ?_
                try simp only [Act.put, List.setIfInBounds_toArray, List.set_cons_zero, List.set_cons_succ]
                refine wpAnyP_free 25 (some 196) rfl rfl (by kernel_rfl) (by kernel_rfl) (by kernel_rfl) (fun _ _ _ h => h) (Or.inl ⟨by rfl, by intro wx _; go_simp <;> with_reducible rfl⟩) ?_
                try simp only [Act.put, List.setIfInBounds_toArray, List.set_cons_zero, List.set_cons_succ]
                refine wpAnyP_one 26 rfl (by kernel_rfl) (fun KK hKK => ?_)
                go_simp
                refine (ceqC ao6 d2 0 ao4 mm4 cc4 XF _ (by omega) (by exact HL2.out.keep (Keep28.below (hbW.trans (hbS.mono hbW.size)))) (by exact (HE4.out.later (hbW.trans (hbS.mono hbW.size))).up (Nat.le_trans hbW.size hbS.size))).mono ?_
                rintro e w12 ⟨rfl, hb12⟩
                go_simp
                replace hbS := hbS.trans (hb12.mono hbS.size)
                refine hKK.out _ _ (fun b o h => hbS.cell (p := ⟨b, o, none⟩) h) (fun h => ?_)
                replace hS := h
                clear hKK KK
                try simp only [Act.put, List.setIfInBounds_toArray, List.set_cons_zero, List.set_cons_succ]
                refine wpAnyP_free 27 (some 198) rfl rfl (by kernel_rfl) (by kernel_rfl) (by kernel_rfl) (fun _ _ _ h => h) (Or.inl ⟨by rfl, by intro wx _; go_simp <;> with_reducible rfl⟩) ?_
                try simp only [Act.put, List.setIfInBounds_toArray, List.set_cons_zero, List.set_cons_succ]
                refine wpAnyP_free 28 (some 6) rfl rfl (by kernel_rfl) (by kernel_rfl) (by kernel_rfl) (fun _ _ _ h => h) (Or.inl ⟨by rfl, by intro wx _; go_simp <;> with_reducible rfl⟩) ?_
                try simp only [Act.put, List.setIfInBounds_toArray, List.set_cons_zero, List.set_cons_succ]
                refine wpAnyP_done (by kernel_rfl) (NoPanic.normal ?_) _
                have hB12 : Below w.heap.size w w12 := hB4.trans ((hbW.trans (hbS.mono hbW.size)).mono hB4.size)
                clear hS p0 p1 y0 y1 y2 y3 y4 y5 y6 y7 y23 y26 y27
                go_wp2
                go_ret
                exact ⟨rfl, hB12⟩
              · have hd1 : ¬ ((lA : Int) + (lR : Int) > 0) := by omega
                have hd2 : decide ((lA : Int) + (lR : Int) > 0) = false := by simpa using hd1
                go_wp2_with (first
                  | (refine wpList_load_mid rfl 43 (.tmp 169) rfl g (len * 29) rfl cs _ HRT.out Yba.underlying43 rfl (by rw [size43, HLN.out]) ?_)
                  | (refine wpList_store_at43 rfl (.tmp 21) (.tmp 170) rfl cs _ w94.heap.size rfl rfl rfl HLN.out rfl HONE'.out ?_))
                try simp only [Act.put, List.setIfInBounds_toArray, List.set_cons_zero, List.set_cons_succ]
                obtain ⟨W, hW⟩ : ∃ W, W = w94.alloc (.cells cs.toArray 43) := ⟨_, rfl⟩
                rw [← hW]
                have hbW : Below w94.heap.size w94 W := by rw [hW]; exact (Below.refl _ _).alloc (Nat.le_refl _) _
                have hWs : W.heap.size = w94.heap.size + 1 := by rw [hW]; simp
                have hG : W.heap[w94.heap.size]? = some (.cells cs.toArray 43 (0, 0)) := by rw [hW]; exact heap_alloc_new _ _
                have qc : ∀ j, W.cell? ⟨w94.heap.size, j, none⟩ = cs[j]? := fun j => by rw [cell_of_row W w94.heap.size j _ 43 (0, 0) hG]; simp
                rw [← qc] at y0 y1 y2 y3 y4 y5 y6 y7 y23 y26 y27
                have p0 := (hbW.cell (p := ⟨w.heap.size, 0, none⟩) hzd).trans u0
                have p1 := (hbW.cell (p := ⟨w.heap.size, 1, none⟩) hzd).trans u1
                have hw0 : w.heap.size < W.heap.size := by omega
                have hw1 : w94.heap.size < W.heap.size := by omega
                clear qc hG hW hWs u0 u1 u2 u3 cR9 HRT
                refine wp_region_P (fun w' => ∀ b o, b < W.heap.size → w'.cell? ⟨b, o, none⟩ = W.cell? ⟨b, o, none⟩) (fun _ => false) (by kernel_rfl) ?_
                have hS : ∀ b o, b < W.heap.size → W.drew.cell? ⟨b, o, none⟩ = W.cell? ⟨b, o, none⟩ := fun _ _ _ => rfl
                refine wpAnyP_free 0 (some 171) rfl rfl (by kernel_rfl) (by kernel_rfl) (by kernel_rfl) (fun _ _ _ h => h) (Or.inl ⟨by rfl, by intro wx _; go_simp <;> with_reducible rfl⟩) ?_
                try simp only [Act.put, List.setIfInBounds_toArray, List.set_cons_zero, List.set_cons_succ]
                refine wpAnyP_take 1 (some 172) rfl rfl (by kernel_rfl) (by kernel_rfl) (by kernel_rfl) (by kernel_rfl) (fun _ _ _ h => h) hS (Or.inl ⟨by rfl, by intro wx hx; go_simp <;> with_reducible rfl⟩) ?_
                try simp only [Act.put, List.setIfInBounds_toArray, List.set_cons_zero, List.set_cons_succ]
                refine wpAnyP_free 2 (some 173) rfl rfl (by kernel_rfl) (by kernel_rfl) (by kernel_rfl) (fun _ _ _ h => h) (Or.inl ⟨by rfl, by intro wx _; go_simp <;> with_reducible rfl⟩) ?_
                try simp only [Act.put, List.setIfInBounds_toArray, List.set_cons_zero, List.set_cons_succ]
                refine wpAnyP_take 3 (some 174) rfl rfl (by kernel_rfl) (by kernel_rfl) (by kernel_rfl) (by kernel_rfl) (fun _ _ _ h => h) hS (Or.inl ⟨by rfl, by intro wx hx; go_simp <;> with_reducible rfl⟩) ?_
                try simp only [Act.put, List.setIfInBounds_toArray, List.set_cons_zero, List.set_cons_succ]
                refine wpAnyP_one 4 rfl (by kernel_rfl) (fun KK hKK => ?_)
                go_simp
                refine (handleC s _ s0 s1).mono ?_
                rintro e w' ⟨rfl, rfl⟩
                go_simp
                have hbS : Below W.heap.size W (W.alloc (.cells #[.int .u8 (s % 4), .int .u8 0, .int .u8 0, .int .u8 0, .int .u8 0, .int .u8 0, .int .u8 0, .int .u8 0] 28)).drew := ((Below.refl _ W).alloc (Nat.le_refl _) _).drew
                refine hKK.out _ _ (fun b o h => hbS.cell (p := ⟨b, o, none⟩) h) (fun h => ?_)
                replace hS := h
                clear hKK KK
                try simp only [Act.put, List.setIfInBounds_toArray, List.set_cons_zero, List.set_cons_succ]
                refine wpAnyP_free 5 (some 176) rfl rfl (by kernel_rfl) (by kernel_rfl) (by kernel_rfl) (fun _ _ _ h => h) (Or.inl ⟨by rfl, by intro wx _; go_simp <;> with_reducible rfl⟩) ?_
                try simp only [Act.put, List.setIfInBounds_toArray, List.set_cons_zero, List.set_cons_succ]
                refine wpAnyP_free 6 (some 177) rfl rfl (by kernel_rfl) (by kernel_rfl) (by kernel_rfl) (fun _ _ _ h => h) (Or.inl ⟨by rfl, by intro wx _; go_simp <;> with_reducible rfl⟩) ?_
                try simp only [Act.put, List.setIfInBounds_toArray, List.set_cons_zero, List.set_cons_succ]
                refine wpAnyP_free 7 (some 178) rfl rfl (by kernel_rfl) (by kernel_rfl) (by kernel_rfl) (fun _ _ _ h => h) (Or.inl ⟨by rfl, by intro wx _; go_simp <;> with_reducible rfl⟩) ?_
                try simp only [Act.put, List.setIfInBounds_toArray, List.set_cons_zero, List.set_cons_succ]
                refine wpAnyP_free 8 (some 179) rfl rfl (by kernel_rfl) (by kernel_rfl) (by kernel_rfl) (fun _ _ _ h => h) (Or.inl ⟨by rfl, by intro wx _; go_simp <;> with_reducible rfl⟩) ?_
                try simp only [Act.put, List.setIfInBounds_toArray, List.set_cons_zero, List.set_cons_succ]
                refine wpAnyP_take 9 (some 180) rfl rfl (by kernel_rfl) (by kernel_rfl) (by kernel_rfl) (by kernel_rfl) (fun _ _ _ h => h) hS (Or.inl ⟨by rfl, by intro wx hx; go_simp <;> with_reducible rfl⟩) ?_
                try simp only [Act.put, List.setIfInBounds_toArray, List.set_cons_zero, List.set_cons_succ]
                refine wpAnyP_free 10 (some 181) rfl rfl (by kernel_rfl) (by kernel_rfl) (by kernel_rfl) (fun _ _ _ h => h) (Or.inl ⟨by rfl, by intro wx _; go_simp <;> with_reducible rfl⟩) ?_
                try simp only [Act.put, List.setIfInBounds_toArray, List.set_cons_zero, List.set_cons_succ]
                refine wpAnyP_take 11 (some 182) rfl rfl (by kernel_rfl) (by kernel_rfl) (by kernel_rfl) (by kernel_rfl) (fun _ _ _ h => h) hS (Or.inl ⟨by rfl, by intro wx hx; go_simp <;> with_reducible rfl⟩) ?_
                try simp only [Act.put, List.setIfInBounds_toArray, List.set_cons_zero, List.set_cons_succ]
                refine wpAnyP_free 12 (some 183) rfl rfl (by kernel_rfl) (by kernel_rfl) (by kernel_rfl) (fun _ _ _ h => h) (Or.inl ⟨by rfl, by intro wx _; go_simp <;> with_reducible rfl⟩) ?_
                try simp only [Act.put, List.setIfInBounds_toArray, List.set_cons_zero, List.set_cons_succ]
                refine wpAnyP_free 13 (some 184) rfl rfl (by kernel_rfl) (by kernel_rfl) (by kernel_rfl) (fun _ _ _ h => h) (Or.inl ⟨by rfl, by intro wx _; go_simp <;> with_reducible rfl⟩) ?_
                try simp only [Act.put, List.setIfInBounds_toArray, List.set_cons_zero, List.set_cons_succ]
                refine wpAnyP_free 14 (some 185) rfl rfl (by kernel_rfl) (by kernel_rfl) (by kernel_rfl) (fun _ _ _ h => h) (Or.inl ⟨by rfl, by intro wx _; go_simp <;> with_reducible rfl⟩) ?_
                try simp only [Act.put, List.setIfInBounds_toArray, List.set_cons_zero, List.set_cons_succ]
                refine wpAnyP_free 15 (some 186) rfl rfl (by kernel_rfl) (by kernel_rfl) (by kernel_rfl) (fun _ _ _ h => h) (Or.inl ⟨by rfl, by intro wx _; go_simp <;> with_reducible rfl⟩) ?_
                try simp only [Act.put, List.setIfInBounds_toArray, List.set_cons_zero, List.set_cons_succ]
                refine wpAnyP_free 16 (some 187) rfl rfl (by kernel_rfl) (by kernel_rfl) (by kernel_rfl) (fun _ _ _ h => h) (Or.inl ⟨by rfl, by intro wx _; go_simp <;> with_reducible rfl⟩) ?_
                try simp only [Act.put, List.setIfInBounds_toArray, List.set_cons_zero, List.set_cons_succ]
                refine wpAnyP_take 17 (some 188) rfl rfl (by kernel_rfl) (by kernel_rfl) (by kernel_rfl) (by kernel_rfl) (fun _ _ _ h => h) hS (Or.inl ⟨by rfl, by intro wx hx; go_simp <;> with_reducible rfl⟩) ?_
                try simp only [Act.put, List.setIfInBounds_toArray, List.set_cons_zero, List.set_cons_succ]
                refine wpAnyP_free 18 (some 189) rfl rfl (by kernel_rfl) (by kernel_rfl) (by kernel_rfl) (fun _ _ _ h => h) (Or.inl ⟨by rfl, by intro wx _; go_simp <;> with_reducible rfl⟩) ?_
                try simp only [Act.put, List.setIfInBounds_toArray, List.set_cons_zero, List.set_cons_succ]
                refine wpAnyP_one 19 rfl (by kernel_rfl) (fun KK hKK => ?_)
                go_simp
                refine (ceqC ao5 d1 0 ao3 mm3 cc3 XE _ (by omega) (by exact HL1.out.keep (Keep28.below (hbW.trans (hbS.mono hbW.size)))) (by exact (HE3W.out.later (hbW.trans (hbS.mono hbW.size))).up (Nat.le_trans hbW.size hbS.size))).mono ?_
                rintro e w11 ⟨rfl, hb11⟩
                go_simp
                replace hbS := hbS.trans (hb11.mono hbS.size)
                refine hKK.out _ _ (fun b o h => hbS.cell (p := ⟨b, o, none⟩) h) (fun h => ?_)
                replace hS := h
                clear hKK KK
                try simp only [Act.put, List.setIfInBounds_toArray, List.set_cons_zero, List.set_cons_succ]
                refine wpAnyP_free 20 (some 191) rfl rfl (by kernel_rfl) (by kernel_rfl) (by kernel_rfl) (fun _ _ _ h => h) (Or.inl ⟨by rfl, by intro wx _; go_simp <;> with_reducible rfl⟩) ?_
                try simp only [Act.put, List.setIfInBounds_toArray, List.set_cons_zero, List.set_cons_succ]
                refine wpAnyP_free 21 (some 192) rfl rfl (by kernel_rfl) (by kernel_rfl) (by kernel_rfl) (fun _ _ _ h => h) (Or.inl ⟨by rfl, by intro wx _; go_simp <;> with_reducible rfl⟩) ?_
                try simp only [Act.put, List.setIfInBounds_toArray, List.set_cons_zero, List.set_cons_succ]
                refine wpAnyP_free 22 (some 193) rfl rfl (by kernel_rfl) (by kernel_rfl) (by kernel_rfl) (fun _ _ _ h => h) (Or.inl ⟨by rfl, by intro wx _; go_simp <;> with_reducible rfl⟩) ?_
                try simp only [Act.put, List.setIfInBounds_toArray, List.set_cons_zero, List.set_cons_succ]
                refine wpAnyP_free 23 (some 194) rfl rfl (by kernel_rfl) (by kernel_rfl) (by kernel_rfl) (fun _ _ _ h => h) (Or.inl ⟨by rfl, by intro wx _; go_simp <;> with_reducible rfl⟩) ?_
                try simp only [Act.put, List.setIfInBounds_toArray, List.set_cons_zero, List.set_cons_succ]
                refine wpAnyP_take 24 (some 195) rfl rfl (by kernel_rfl) (by kernel_rfl) (by kernel_rfl) (by kernel_rfl) (fun _ _ _ h => h) hS (Or.inl ⟨by rfl, by intro wx hx; go_simp <;> with_reducible rfl⟩) ?_
                try simp only [Act.put, List.setIfInBounds_toArray, List.set_cons_zero, List.set_cons_succ]
                refine wpAnyP_free 25 (some 196) rfl rfl (by kernel_rfl) (by kernel_rfl) (by kernel_rfl) (fun _ _ _ h => h) (Or.inl ⟨by rfl, by intro wx _; go_simp <;> with_reducible rfl⟩) ?_
                try simp only [Act.put, List.setIfInBounds_toArray, List.set_cons_zero, List.set_cons_succ]
                refine wpAnyP_one 26 rfl (by kernel_rfl) (fun KK hKK => ?_)
                go_simp
                refine (ceqC ao6 d2 0 ao4 mm4 cc4 XF _ (by omega) (by exact HL2.out.keep (Keep28.below (hbW.trans (hbS.mono hbW.size)))) (by exact (HE4.out.later (hbW.trans (hbS.mono hbW.size))).up (Nat.le_trans hbW.size hbS.size))).mono ?_
                rintro e w12 ⟨rfl, hb12⟩
                go_simp
                replace hbS := hbS.trans (hb12.mono hbS.size)
                refine hKK.out _ _ (fun b o h => hbS.cell (p := ⟨b, o, none⟩) h) (fun h => ?_)
                replace hS := h
                clear hKK KK
                try simp only [Act.put, List.setIfInBounds_toArray, List.set_cons_zero, List.set_cons_succ]
                refine wpAnyP_free 27 (some 198) rfl rfl (by kernel_rfl) (by kernel_rfl) (by kernel_rfl) (fun _ _ _ h => h) (Or.inl ⟨by rfl, by intro wx _; go_simp <;> with_reducible rfl⟩) ?_
                try simp only [Act.put, List.setIfInBounds_toArray, List.set_cons_zero, List.set_cons_succ]
                refine wpAnyP_free 28 (some 6) rfl rfl (by kernel_rfl) (by kernel_rfl) (by kernel_rfl) (fun _ _ _ h => h) (Or.inl ⟨by rfl, by intro wx _; go_simp <;> with_reducible rfl⟩) ?_
                try simp only [Act.put, List.setIfInBounds_toArray, List.set_cons_zero, List.set_cons_succ]
                refine wpAnyP_done (by kernel_rfl) (NoPanic.normal ?_) _
                have hB12 : Below w.heap.size w w12 := hB4.trans ((hbW.trans (hbS.mono hbW.size)).mono hB4.size)
                clear hS p0 p1 y0 y1 y2 y3 y4 y5 y6 y7 y23 y26 y27
                go_wp2
                go_ret
                exact ⟨rfl, hB12⟩
            
        
    

end Go.Proofs.Ybulkamho
