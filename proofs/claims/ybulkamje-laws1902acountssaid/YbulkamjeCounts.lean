import Derived.Test.YbulkamjeAcked
namespace Go.Proofs.Ybulkamje
open Go.RowKit Go.Maps Go.WideMaps
set_option linter.unusedSimpArgs false

theorem Away.setNew {lo hi : Nat} {a w : World} (h : Away lo hi a w) {p : Addr} (h1 : a.heap.size ≤ p.block) (u : Value) : Away lo hi a (w.setCell p u) :=
  ⟨h.os, h.tape, h.output, by have := h.size; simpa [World.setCell] using this, fun k hk h2 => (Below.heap_setCell _ _ _ _ (by omega)).trans (h.block k hk h2)⟩
theorem total_congr (f g : Nat → Int) : ∀ n, (∀ i, i < n → f i = g i) → total f n = total g n
  | 0, _ => rfl
  | n + 1, h => by unfold total; rw [total_congr f g n (fun i hi => h i (by omega)), h n (by omega)]
theorem total_bounds (f : Nat → Int) (c : Int) : ∀ n, (∀ i, i < n → 0 ≤ f i ∧ f i ≤ c) → 0 ≤ total f n ∧ total f n ≤ c * n
  | 0, _ => by simp [total]
  | n + 1, h => by
    have ih := total_bounds f c n (fun i hi => h i (by omega))
    have := h n (by omega)
    unfold total
    have e : c * ((n + 1 : Nat) : Int) = c * n + c := by rw [Int.natCast_add, Int.mul_add]; simp
    rw [e]
    omega
/-- The row of what was received, as the law writes it down. -/
def recV (R : Nat → Int) : Nat → Value := fun q => .int .u64 (R q)
theorem recV_set (R : Nat → Int) (p : Nat) (x : Int) : updV (recV R) p (.int .u64 x) = recV (updV R p x) := by
  funext q
  simp only [updV, recV]
  split <;> rfl
theorem stab_one (r : Int) (A : Nat → Nat → Int) (p : Nat) : stabTo r A p 1 = r := by simp [stabTo]

set_option maxRecDepth 100000 in
set_option maxHeartbeats 6400000 in
theorem countsC (a0 a1 a2 a3 : Option Addr) (l0 l1 l2 l3 c0 c1 c2 c3 : Nat) (X1 X2 X3 : Nat → Int) (w : World) (HB : Builds a0 l0 c0 w) (h0 : l0 ≤ 256) (h1 : l1 ≤ 1024) (h2 : l2 ≤ 1024) (h3 : l3 ≤ 1024)
    (b1 : BY w.heap.size w a1 l1 X1) (b2 : BY w.heap.size w a2 l2 X2) (b3 : BY w.heap.size w a3 l3 X3) :
    Calls Yba.prog 3 #[.slice a0 l0 c0, .slice a1 l1 c1, .slice a2 l2 c2, .slice a3 l3 c3] w fun e w' => e = .returned (.bool true) ∧ Below w.heap.size w w' := by
  have HB1 : Hid (BY w.heap.size w a1 l1 X1) := b1
  have HB2 : Hid (BY w.heap.size w a2 l2 X2) := b2
  have HB3 : Hid (BY w.heap.size w a3 l3 X3) := b3
  have g0 : ¬ ((256 : Int) < (l0 : Int)) := by omega
  have g1 : ¬ ((1024 : Int) < (l1 : Int)) := by omega
  have g2 : ¬ ((1024 : Int) < (l2 : Int)) := by omega
  have g3 : ¬ ((1024 : Int) < (l3 : Int)) := by omega
  have HBB : Hid (Builds a0 l0 c0 w) := HB
  clear b1 b2 b3 HB
  go_enter Yba.func3, Yba.ntmps3
  go_wp2_with (go_at_call 7; refine Calls.mono HBB.out ?_; rintro e w1 ⟨O, mb, nn, Dm, sh, rfl, hst, hb1⟩)
  have HB1B : Hid (Below w.heap.size w w1) := hb1
  have HST : Hid (St w1 w.heap.size w1.heap.size O mb nn l0 Dm sh (fun _ _ => 0) (fun _ _ => 0) (fun _ _ _ => 0)) := hst
  obtain ⟨B, hBe⟩ : ∃ B, w1.heap.size = B := ⟨_, rfl⟩
  rw [hBe] at HST
  have hBw : w.heap.size ≤ B := by rw [← hBe]; exact hb1.size
  clear hst hb1 hBe
  go_loopg [10, 11, 46] l0 (fun g v u i wr => ∃ n c : Nat, g = l0 - n ∧ n ≤ l0 ∧ i = .int .i64 n ∧ v = .int .i64 c ∧ c ≤ 20 * n ∧ Below w.heap.size w wr ∧ ∃ D K A, St wr w.heap.size B O mb nn l0 Dm sh D K A ∧ (∀ j, j < l0 → Fits (sh j).n (D j) (K j) (A j)) ∧
    u = .int .u64 (total (fun j => heldTo (D j) (K j) (A j) (sh j).n (sh j).n) n))
  case atStart => exact ⟨0, 0, rfl, Nat.zero_le _, rfl, rfl, Nat.zero_le _, HB1B.out, _, _, _, HST.out, fun j _ => ⟨by simp, by simp, by simp, by simp⟩, rfl⟩
  case round =>
    obtain ⟨n, c, rfl, hn, rfl, rfl, hc, hbel, D, K, A, hst, hft, rfl⟩ := hrel
    have HBEL : Hid (Below w.heap.size w wr) := hbel
    have HS : Hid (St wr w.heap.size B O mb nn l0 Dm sh D K A) := hst
    have HF : Hid (∀ j, j < l0 → Fits (sh j).n (D j) (K j) (A j)) := hft
    clear hbel hst hft HST HB1B
    have cO := HS.out.cO
    have htb := total_bounds (fun j => heldTo (D j) (K j) (A j) (sh j).n (sh j).n) 8000 n (fun j hj => by
      have h1 := held_bounds (HF.out j (by omega)) (sh j).n (Nat.le_refl _)
      have h2 := (HS.out.g j (by omega)).four
      exact ⟨h1.1, by have := h1.2; omega⟩)
    obtain ⟨tt, htt⟩ : ∃ tt, total (fun j => heldTo (D j) (K j) (A j) (sh j).n (sh j).n) n = tt := ⟨_, rfl⟩
    have HTT : Hid (total (fun j => heldTo (D j) (K j) (A j) (sh j).n (sh j).n) n = tt) := htt
    rw [htt] at htb ⊢
    clear htt
    have ht8 : 0 ≤ tt ∧ tt ≤ 3000000 := by omega
    clear htb
    by_cases hlt : n < l0
    · have hO : O < wr.heap.size := Nat.lt_of_lt_of_le HS.out.oO.1 HS.out.sz
      have hi0 : (0 : Int) ≤ (n : Int) := by omega
      have hlook := lookG (W := (wr.alloc (.cells #[.int .u8 103, .int .u8 n] 5)).drew) (ownsMap_block HS.out.own (Below.heap_alloc _ _ _ HS.out.own.lt)) HS.out.tab n hlt h0
      go_upto_region 9 with fail
      go_cut [13, 46] from 46 to 173 (fun v i wx => v = .pointer (some ⟨(sh n).G, 0, none⟩) ∧ i = .int .i64 n ∧ Below wr.heap.size wr wx)
      case first =>
        go_region_with (go_at_call 8; refine (nameC n _ (by omega)).mono ?_; rintro e w2 ⟨rfl, rfl⟩)
        all_goals (go_wp2_with fail; go_meet)
        all_goals exact ⟨rfl, rfl, ((Below.refl _ _).alloc (Nat.le_refl _) _).drew⟩
      case rest =>
        obtain ⟨rfl, rfl, hbc⟩ := hcut
        have HSC : Hid (St wc w.heap.size B O mb nn l0 Dm sh D K A) := HS.out.keep (hbc.mono HS.out.sz)
        have HBC : Hid (Below w.heap.size w wc) := HBEL.out.trans (hbc.mono HBEL.out.size)
        clear hbc cO hO hlook
        have hGn := HSC.out.g n hlt
        have hlo := HSC.out.lo n hlt
        have hhi := HSC.out.hi n hlt
        have hsz := HSC.out.sz
        have HGn : Hid (Grp wc (sh n) (D n) (K n) (A n)) := hGn
        have hFn : Hid (Fits (sh n).n (D n) (K n) (A n)) := HF.out n hlt
        have cm2 := hGn.cmem
        have h4 := hGn.four
        have hone := hGn.one
        have hlohi := hGn.lohi
        have hGlt : (sh n).G < wc.heap.size := by have := hGn.bG; omega
        clear hGn
        obtain ⟨s, hs⟩ : ∃ s, sh n = s := ⟨_, rfl⟩
        have HSE : Hid (sh n = s) := hs
        rw [hs] at HGn hFn cm2 h4 hone hlohi hGlt hlo hhi ⊢
        clear hs
        have hmk43 := mk43 s.n (by omega)
        obtain ⟨rc, hrc⟩ : ∃ rc, wc.heap.size = rc := ⟨_, rfl⟩
        have hBrc : B ≤ rc := by omega
        go_wp2_with fail
        have HR0 : Hid ((wc.alloc (.cells (rowV s.n fun _ => .int .u64 0) 25)).heap[rc]? = some (.cells (rowV s.n (recV fun _ => 0)) 25 (0, 0))) := by
          have h := heap_alloc_new wc (.cells (rowV s.n fun _ => .int .u64 0) 25)
          rw [hrc] at h
          exact h
        have HA0 : Hid (Away s.lo s.hi wc (wc.alloc (.cells (rowV s.n fun _ => .int .u64 0) 25))) := (Away.refl _ _ _).alloc _
        have HG0 : Hid (Grp (wc.alloc (.cells (rowV s.n fun _ => .int .u64 0) 25)) s (D n) (K n) (A n)) := HGn.out.alloc (by omega) _
        generalize wc.alloc (.cells (rowV s.n fun _ => .int .u64 0) 25) = wa at *
        clear cm2
        go_loopg [10, 16] s.n (fun g v i wr => ∃ p c' : Nat, g = s.n - p ∧ p ≤ s.n ∧ i = .int .i64 p ∧ v = .int .i64 c' ∧ c' ≤ 20 * n + p ∧ Away s.lo s.hi wc wr ∧ ∃ Dp Kp R, Grp wr s Dp Kp (A n) ∧ Fits s.n Dp Kp (A n) ∧ wr.heap[rc]? = some (.cells (rowV s.n (recV R)) 25 (0, 0)) ∧ ∀ q, q < p → R q = Dp q + Kp q)
        case atStart => exact ⟨0, c, rfl, Nat.zero_le _, rfl, rfl, by omega, HA0.out, _, _, _, HG0.out, hFn.out, HR0.out, fun q hq => by omega⟩
        case round =>
          obtain ⟨p, c', rfl, hp, rfl, rfl, hc', haw, Dp, Kp, R, hg, hfp, hrow, hR⟩ := hrel
          have HA : Hid (Away s.lo s.hi wc wr) := haw
          have HG : Hid (Grp wr s Dp Kp (A n)) := hg
          have HFP : Hid (Fits s.n Dp Kp (A n)) := hfp
          have HROW : Hid (wr.heap[rc]? = some (.cells (rowV s.n (recV R)) 25 (0, 0))) := hrow
          have HRE : Hid (∀ q, q < p → R q = Dp q + Kp q) := hR
          clear haw hg hfp hrow hR HR0 HG0 HA0
          have hsw := HA.out.size
          have hrl : rc < wr.heap.size := (Array.getElem?_eq_some_iff.1 HROW.out).1
          have HBW : Hid (Below w.heap.size w wr) := HBC.out.trans ((HA.out.below (Nat.le_trans hhi hsz) hlohi).mono hlo)
          by_cases hpl : p < s.n
          · have HP1 := pickC a1 l1 c1 X1 c' wr h1 (by omega) (HB1.out.wide HBW.out (by omega))
            have HP2 := pickC a2 l2 c2 X2 c' wr h2 (by omega) (HB2.out.wide HBW.out (by omega))
            have hd := pick_bounds HB1.out c'
            have hk := pick_bounds HB2.out c'
            obtain ⟨kk, hkk⟩ : ∃ kk : Nat, pick X2 l2 c' % 4 = (kk : Int) := ⟨(pick X2 l2 c' % 4).toNat, by omega⟩
            have hk3 : kk ≤ 3 := by omega
            generalize pick X1 l1 c' = d at *
            generalize pick X2 l2 c' = k0 at *
            have d11 := HG.out.cdrop
            have dcl := HG.out.dropAt p hpl
            have dfz := frozen_row HG.out.drop p
            have hdlt : s.dr < wr.heap.size := by have := HG.out.bdr; omega
            have hGlt2 : s.G < wr.heap.size := by have := HG.out.bG; omega
            have hi0 : (0 : Int) ≤ (p : Int) := by omega
            have hi1 : (p : Int) < (s.n : Int) := by omega
            go_upto_region 16 with (go_at_call 9; refine HP1.mono ?_; rintro e w2 ⟨rfl, hw2⟩; rw [hw2]; clear hw2)
            go_upto_region 19 with (go_at_call 9; refine HP2.mono ?_; rintro e w2 ⟨rfl, hw2⟩; rw [hw2]; clear hw2)
            have HG2 : Hid (Grp (wr.setCell ⟨s.dr, p, none⟩ (.int .u64 d)) s (updV Dp p d) Kp (A n)) := HG.out.setDrop p d
            have HA2 : Hid (Away s.lo s.hi wc (wr.setCell ⟨s.dr, p, none⟩ (.int .u64 d))) := HA.out.setCell HG.out.bdr.1 HG.out.bdr.2 _
            have HROW2 : Hid ((wr.setCell ⟨s.dr, p, none⟩ (.int .u64 d)).heap[rc]? = some (.cells (rowV s.n (recV R)) 25 (0, 0))) := (heap_setCell_ne _ (by have := HG.out.bdr; show rc ≠ s.dr; omega)).trans HROW.out
            have hsz3 : rc < (wr.setCell ⟨s.dr, p, none⟩ (.int .u64 d)).heap.size := by simpa [World.setCell] using hrl
            generalize wr.setCell ⟨s.dr, p, none⟩ (.int .u64 d) = w2 at *
            clear d11 dcl dfz hdlt hGlt2 HP1 HP2 hkk hk
            obtain ⟨cs, hmk⟩ := mk59 kk hk3
            have e10 := HG2.out.ckept
            obtain ⟨ak0, ekp⟩ := HG2.out.keptAt p hpl
            have efz : w2.frozen? ⟨s.kp, p, none⟩ = false := by obtain ⟨V, hV, _⟩ := HG2.out.kept; exact frozen_row hV p
            have hkplt : s.kp < w2.heap.size := by have := HG2.out.bkp; omega
            have hGlt3 : s.G < w2.heap.size := by have := HG2.out.bG; omega
            go_region
            go_upto_region 20 with fail
            have HG3 : Hid (Grp ((w2.setCell ⟨s.kp, p, none⟩ (.slice (some ⟨w2.heap.size, 0, none⟩) kk kk)).alloc (.cells cs 149)).drew s (updV Dp p d) (updV Kp p kk) (A n)) :=
              ((HG2.out.setKept p _ kk).alloc (by simp [World.setCell]; omega) _).drewN 1
            have HA3 : Hid (Away s.lo s.hi wc ((w2.setCell ⟨s.kp, p, none⟩ (.slice (some ⟨w2.heap.size, 0, none⟩) kk kk)).alloc (.cells cs 149)).drew) := ((HA2.out.setCell HG2.out.bkp.1 HG2.out.bkp.2 _).alloc _).drew
            have HROW3 : Hid (((w2.setCell ⟨s.kp, p, none⟩ (.slice (some ⟨w2.heap.size, 0, none⟩) kk kk)).alloc (.cells cs 149)).drew.heap[rc]? = some (.cells (rowV s.n (recV R)) 25 (0, 0))) := ((Below.heap_alloc _ _ _ (by simpa [World.setCell] using hsz3)).trans (heap_setCell_ne _ (by have := HG2.out.bkp; show rc ≠ s.kp; omega))).trans HROW2.out
            generalize ((w2.setCell ⟨s.kp, p, none⟩ (.slice (some ⟨w2.heap.size, 0, none⟩) kk kk)).alloc (.cells cs 149)).drew = w3 at *
            clear e10 ekp efz hkplt hGlt3 hmk HG2 HA2 hsz3 HROW2
            have r1 : w3.cell? ⟨rc, p, none⟩ = some (.int .u64 (R p)) := by rw [cell_of_row w3 rc p _ 25 (0, 0) HROW3.out, rowV_at _ _ p hpl]; rfl
            have r2 := frozen_row HROW3.out p
            have r3 : rc < w3.heap.size := (Array.getElem?_eq_some_iff.1 HROW3.out).1
            go_wp2_with fail
            have HG4 : Hid (Grp (w3.setCell ⟨rc, p, none⟩ (.int .u64 (d + kk))) s (updV Dp p d) (updV Kp p kk) (A n)) := HG3.out.keep (fun b hb1 hb2 => heap_setCell_ne _ (by show b ≠ rc; omega))
            have HA4 : Hid (Away s.lo s.hi wc (w3.setCell ⟨rc, p, none⟩ (.int .u64 (d + kk)))) := HA3.out.setNew (p := ⟨rc, p, none⟩) (by show wc.heap.size ≤ rc; omega) _
            have HROW4 : Hid ((w3.setCell ⟨rc, p, none⟩ (.int .u64 (d + kk))).heap[rc]? = some (.cells (rowV s.n (recV (updV R p (d + kk)))) 25 (0, 0))) := by
              have h := heap_setCell_row (p := p) HROW3.out (.int .u64 (d + kk))
              rw [rowV_set, recV_set] at h
              exact h
            have HF4 : Hid (Fits s.n (updV Dp p d) (updV Kp p kk) (A n)) := ⟨fun q hq => by simp only [updV]; split <;> first | omega | exact HFP.out.d0 q hq, fun q hq => by simp only [updV]; split <;> first | omega | exact HFP.out.d1 q hq, fun q hq => by simp only [updV]; split <;> first | omega | exact HFP.out.k1 q hq, HFP.out.a0⟩
            have HRE4 : Hid (∀ q, q < p + 1 → updV R p (d + kk) q = updV Dp p d q + updV Kp p kk q) := fun q hq => by
              by_cases e : q = p
              · simp [updV, e]
              · have := HRE.out q (by omega)
                simp only [updV, if_neg e]; exact this
            generalize w3.setCell ⟨rc, p, none⟩ (.int .u64 (d + kk)) = w4 at *
            clear r1 r2 r3 HG3 HA3 HROW3
            go_roundg (s.n - (p + 1))
            case measure => omega
            case rel => exact ⟨p + 1, c' + 1, rfl, by omega, by go_num, by go_num, by omega, HA4.out, _, _, _, HG4.out, HF4.out, HROW4.out, HRE4.out⟩
          · obtain rfl : p = s.n := by omega
            go_wp2_with fail
            go_loopg [10, 19] s.n (fun g v i wr => ∃ m c' : Nat, g = s.n - m ∧ m ≤ s.n ∧ i = .int .i64 m ∧ v = .int .i64 c' ∧ c' ≤ 20 * n + 4 + 4 * m ∧ Away s.lo s.hi wc wr ∧ ∃ Ap, Grp wr s Dp Kp Ap ∧ Fits s.n Dp Kp Ap ∧ wr.heap[rc]? = some (.cells (rowV s.n (recV R)) 25 (0, 0)))
            case atStart => exact ⟨0, c', rfl, Nat.zero_le _, rfl, rfl, by omega, HA.out, _, HG.out, HFP.out, HROW.out⟩
            case round =>
              obtain ⟨m, cb, rfl, hm, rfl, rfl, hcb, haw, Ap, hg, hfp, hrow⟩ := hrel
              have HA : Hid (Away s.lo s.hi wc wr) := haw
              have HG : Hid (Grp wr s Dp Kp Ap) := hg
              have HFP : Hid (Fits s.n Dp Kp Ap) := hfp
              have HROW : Hid (wr.heap[rc]? = some (.cells (rowV s.n (recV R)) 25 (0, 0))) := hrow
              clear haw hg hfp hrow HBW hrl hsw
              by_cases hml : m < s.n
              · go_wp2_with fail
                go_loopg [10, 20] s.n (fun g v i wr => ∃ p c' : Nat, g = s.n - p ∧ p ≤ s.n ∧ i = .int .i64 p ∧ v = .int .i64 c' ∧ c' ≤ 20 * n + 4 + 4 * m + p ∧ Away s.lo s.hi wc wr ∧ ∃ Ap, Grp wr s Dp Kp Ap ∧ Fits s.n Dp Kp Ap ∧ wr.heap[rc]? = some (.cells (rowV s.n (recV R)) 25 (0, 0)))
                case atStart => exact ⟨0, cb, rfl, Nat.zero_le _, rfl, rfl, by omega, HA.out, _, HG.out, HFP.out, HROW.out⟩
                case round =>
                  obtain ⟨p, cc, rfl, hp, rfl, rfl, hcc, haw, Aq, hg, hfp, hrow⟩ := hrel
                  have HA : Hid (Away s.lo s.hi wc wr) := haw
                  have HG : Hid (Grp wr s Dp Kp Aq) := hg
                  have HFP : Hid (Fits s.n Dp Kp Aq) := hfp
                  have HROW : Hid (wr.heap[rc]? = some (.cells (rowV s.n (recV R)) 25 (0, 0))) := hrow
                  clear haw hg hfp hrow
                  by_cases hpl : p < s.n
                  · have hsw := HA.out.size
                    have HBW : Hid (Below w.heap.size w wr) := HBC.out.trans ((HA.out.below (Nat.le_trans hhi hsz) hlohi).mono hlo)
                    have HBY : BY wr.drew.heap.size wr.drew a3 l3 X3 := HB3.out.wide HBW.out.drew (show w.heap.size ≤ wr.heap.size by omega)
                    have HP := pickC a3 l3 c3 X3 cc wr.drew h3 (by omega) HBY
                    have hx := pick_bounds HB3.out cc
                    generalize pick X3 l3 cc = x at *
                    have f14 := HG.out.cacks
                    have fak := HG.out.acksAt m hml
                    have far := HG.out.ackAt m p hml hpl
                    have ffz := frozen_row (HG.out.ack m hml) p
                    have hGl : s.G < wr.heap.size := by have := HG.out.bG; omega
                    have hakl : s.ak < wr.heap.size := by have := HG.out.bak; omega
                    have harl : s.ar m < wr.heap.size := by have := HG.out.bar m hml; omega
                    have hj0 : (0 : Int) ≤ (m : Int) := by omega
                    have hj1 : (m : Int) < (s.n : Int) := by omega
                    have hi0 : (0 : Int) ≤ (p : Int) := by omega
                    have hi1 : (p : Int) < (s.n : Int) := by omega
                    clear HBY
                    go_upto_region 27 with fail
                    go_cut [20] from 105 to 123 (fun v wx => v = .int .i64 p ∧ ∃ q, wx = (wr.setCell ⟨s.ar m, p, none⟩ (.int .u64 x)).drewN q)
                    case first =>
                      go_region_with (go_at_call 9; refine HP.mono ?_; rintro e w2 ⟨rfl, hw2⟩; rw [hw2]; clear hw2)
                      all_goals (go_wp2_with fail; go_meet)
                      all_goals exact ⟨rfl, 1, rfl⟩
                    case rest =>
                      obtain ⟨rfl, q, rfl⟩ := hcut
                      have HG4 : Hid (Grp ((wr.setCell ⟨s.ar m, p, none⟩ (.int .u64 x)).drewN q) s Dp Kp (updV Aq m (updV (Aq m) p x))) := (HG.out.setAck m p hml _).drewN q
                      have HA4 : Hid (Away s.lo s.hi wc ((wr.setCell ⟨s.ar m, p, none⟩ (.int .u64 x)).drewN q)) := (HA.out.setCell (HG.out.bar m hml).1 (HG.out.bar m hml).2 _).drewN q
                      have HF4 : Hid (Fits s.n Dp Kp (updV Aq m (updV (Aq m) p x))) := ⟨HFP.out.d0, HFP.out.d1, HFP.out.k1, fun m' q' h1' h2' => by
                        rw [upd2]
                        split
                        · omega
                        · exact HFP.out.a0 m' q' h1' h2'⟩
                      have HROW4 : Hid (((wr.setCell ⟨s.ar m, p, none⟩ (.int .u64 x)).drewN q).heap[rc]? = some (.cells (rowV s.n (recV R)) 25 (0, 0))) := (heap_setCell_ne _ (by have := HG.out.bar m hml; show rc ≠ s.ar m; omega)).trans HROW.out
                      generalize updV Aq m (updV (Aq m) p x) = A4 at *
                      generalize ((wr.setCell ⟨s.ar m, p, none⟩ (.int .u64 x)).drewN q) = w4 at *
                      clear f14 fak far ffz hGl hakl harl HP HBW
                      go_wp2_with fail
                      go_roundg (s.n - (p + 1))
                      case measure => omega
                      case rel => exact ⟨p + 1, cc + 1, rfl, by omega, by go_num, by go_num, by omega, HA4.out, A4, HG4.out, HF4.out, HROW4.out⟩
                  · obtain rfl : p = s.n := by omega
                    go_wp2_with fail
                    go_roundg (s.n - (m + 1))
                    case measure => omega
                    case rel => exact ⟨m + 1, cc, rfl, by omega, by go_num, rfl, by omega, HA.out, Aq, HG.out, HFP.out, HROW.out⟩
              · obtain rfl : m = s.n := by omega
                obtain ⟨wD, hwD⟩ : ∃ wD, wD = wr := ⟨_, rfl⟩
                subst hwD
                go_wp2_with fail
                go_loopg [11, 21] s.n (fun g v i wz => ∃ p : Nat, g = s.n - p ∧ p ≤ s.n ∧ i = .int .i64 p ∧ v = .int .u64 (tt + heldTo Dp Kp Ap s.n p) ∧ wz = wD)
                case atStart => exact ⟨0, rfl, Nat.zero_le _, rfl, by simp [heldTo, total], rfl⟩
                case round =>
                  obtain ⟨p, rfl, hp, rfl, rfl, hw⟩ := hrel
                  subst hw
                  have hhb := held_bounds HFP.out p hp
                  by_cases hpl : p < s.n
                  · have hRp : R p = Dp p + Kp p := HRE.out p hpl
                    have r1 : wr.cell? ⟨rc, p, none⟩ = some (.int .u64 (Dp p + Kp p)) := by rw [cell_of_row wr rc p _ 25 (0, 0) HROW.out, rowV_at _ _ p hpl, recV, hRp]
                    have hd0 := HFP.out.d0 p hpl
                    have hd1 := HFP.out.d1 p hpl
                    have hk1 := HFP.out.k1 p hpl
                    have HSU : Hid (heldTo Dp Kp Ap s.n (p + 1) = heldTo Dp Kp Ap s.n p + (Dp p + Kp p - stabTo (Dp p + Kp p) Ap p s.n)) := rfl
                    have HSB : Hid (∀ m, m ≤ s.n → 0 ≤ stabTo (Dp p + Kp p) Ap p m ∧ stabTo (Dp p + Kp p) Ap p m ≤ Dp p + Kp p) := fun m hm => stabTo_bounds (Dp p + Kp p) Ap p (by omega) m (fun j hj => (HFP.out.a0 j p (by omega) hpl).1)
                    have HS1 : Hid (stabTo (Dp p + Kp p) Ap p 1 = Dp p + Kp p) := stab_one _ _ _
                    clear hRp
                    generalize heldTo Dp Kp Ap s.n p = hp' at *
                    obtain ⟨r, hr⟩ : ∃ r, Dp p + (Kp p : Int) = r := ⟨_, rfl⟩
                    rw [hr] at r1 HSU HSB HS1
                    have hr2 : 0 ≤ r ∧ r ≤ 2000 := by omega
                    clear hr hd0 hd1 hk1
                    have hi0 : (0 : Int) ≤ (p : Int) := by omega
                    have hi1 : (p : Int) < (s.n : Int) := by omega
                    have hrl2 : rc < wr.heap.size := (Array.getElem?_eq_some_iff.1 HROW.out).1
                    go_wp2_with fail
                    go_loopg [22, 23] (s.n - 1) (fun g v i wz => ∃ m : Nat, g = s.n - m ∧ 1 ≤ m ∧ m ≤ s.n ∧ i = .int .i64 m ∧ v = .int .u64 (stabTo r Ap p m) ∧ wz = wr)
                    case atStart => exact ⟨1, rfl, Nat.le_refl _, hone, rfl, by rw [HS1.out], rfl⟩
                    case round =>
                      obtain ⟨m, rfl, hm1, hm, rfl, rfl, hw⟩ := hrel
                      subst hw
                      have hb := HSB.out m hm
                      by_cases hml : m < s.n
                      · have f14 := HG.out.cacks
                        have fak := HG.out.acksAt m hml
                        have far := HG.out.ackAt m p hml hpl
                        obtain ⟨y0, y1⟩ := HFP.out.a0 m p hml hpl
                        have HS : Hid (stabTo r Ap p (m + 1) = if m ≠ 0 ∧ m ≠ p then min (stabTo r Ap p m) (Ap m p) else stabTo r Ap p m) := rfl
                        generalize stabTo r Ap p m = x at *
                        generalize Ap m p = y at *
                        have hj0 : (0 : Int) ≤ (m : Int) := by omega
                        have hj1 : (m : Int) < (s.n : Int) := by omega
                        by_cases hmp : m = p
                        · have HT : Hid (stabTo r Ap p (m + 1) = x) := by have := HS.out; rw [if_neg (fun e => e.2 hmp)] at this; exact this
                          have hdp : (((m : Nat) : Int) != ((p : Nat) : Int)) = false := by simp [hmp]
                          go_wp2
                          go_roundg (s.n - (m + 1))
                          case measure => omega
                          case rel => exact ⟨m + 1, rfl, by omega, by omega, by go_num, by rw [HT.out], rfl⟩
                        · have hdp : (((m : Nat) : Int) != ((p : Nat) : Int)) = true := by simp; omega
                          have HT : Hid (stabTo r Ap p (m + 1) = min x y) := by have := HS.out; rw [if_pos ⟨by omega, hmp⟩] at this; exact this
                          by_cases hxy : y < x
                          · have HT2 : Hid (min x y = y) := by simp only [Hid]; omega
                            go_wp2
                            go_roundg (s.n - (m + 1))
                            case measure => omega
                            case rel => exact ⟨m + 1, rfl, by omega, by omega, by go_num, by rw [HT.out, HT2.out], rfl⟩
                          · have HT2 : Hid (min x y = x) := by simp only [Hid]; omega
                            go_wp2
                            go_roundg (s.n - (m + 1))
                            case measure => omega
                            case rel => exact ⟨m + 1, rfl, by omega, by omega, by go_num, by rw [HT.out, HT2.out], rfl⟩
                      · obtain rfl : m = s.n := by omega
                        generalize stabTo r Ap p s.n = st at *
                        have hw1 : IntKind.u64.wrap (r - st) = r - st := by rw [IntKind.wrap_u64]; omega
                        have hw2 : IntKind.u64.wrap (tt + hp' + (r - st)) = tt + hp' + (r - st) := by rw [IntKind.wrap_u64]; omega
                        go_wp2
                        go_roundg (s.n - (p + 1))
                        case measure => omega
                        case rel => exact ⟨p + 1, rfl, by omega, by go_num, by rw [HSU.out]; congr 1; omega, rfl⟩
                  · obtain rfl : p = s.n := by omega
                    have HSTEP : Hid (St wr w.heap.size B O mb nn l0 Dm sh (updV D n Dp) (updV K n Kp) (updV A n Ap)) := HSC.out.step n hlt (by rw [HSE.out]; exact HA.out) (by rw [HSE.out]; exact HG.out)
                    have HBW : Hid (Below w.heap.size w wr) := HBC.out.trans ((HA.out.below (Nat.le_trans hhi hsz) hlohi).mono hlo)
                    have HF5 : Hid (∀ j, j < l0 → Fits (sh j).n (updV D n Dp j) (updV K n Kp j) (updV A n Ap j)) := fun j hj => by
                      by_cases e : j = n
                      · simp only [updV, e, if_true]; rw [HSE.out]; exact HFP.out
                      · simp only [updV, if_neg e]; exact HF.out j hj
                    have HV : Hid (tt + heldTo Dp Kp Ap s.n s.n = total (fun j => heldTo (updV D n Dp j) (updV K n Kp j) (updV A n Ap j) (sh j).n (sh j).n) (n + 1)) := by
                      have e1 : total (fun j => heldTo (updV D n Dp j) (updV K n Kp j) (updV A n Ap j) (sh j).n (sh j).n) n = tt := by
                        rw [← HTT.out]
                        refine total_congr _ _ n (fun j hj => ?_)
                        have e : j ≠ n := by omega
                        simp only [updV, if_neg e]
                      show _ = _
                      rw [total, e1]
                      simp only [updV, if_true]
                      rw [HSE.out]
                    generalize heldTo Dp Kp Ap s.n s.n = hh at *
                    go_wp2
                    go_roundg (l0 - (n + 1))
                    case measure => omega
                    case rel => exact ⟨n + 1, cb, rfl, by omega, by go_num, rfl, by omega, HBW.out, _, _, _, HSTEP.out, HF5.out, by rw [HV.out]⟩
    · obtain rfl : n = l0 := by omega
      have HRET := retainedC O mb nn n Dm sh D K A wr h0 cO HS.out.own HS.out.tab HS.out.g (fun i hi => Nat.le_trans (HS.out.hi i hi) HS.out.sz) HF.out
      rw [HTT.out] at HRET
      clear cO
      go_wp2_with (go_at_call 10; refine HRET.mono ?_; rintro e w4 ⟨rfl, hb4⟩)
      go_ret
      exact ⟨rfl, HBEL.out.trans (hb4.mono HBEL.out.size)⟩
end Go.Proofs.Ybulkamje
