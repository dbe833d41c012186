import Derived.Test.YbulkamjeState
import Derived.Test.YbulkamjeMakes
import Derived.Deep.RegionWith
import Derived.Deep.CutRange
import Derived.Deep.DeepCutAuto
namespace Go.Proofs.Ybulkamje
open Go.RowKit Go.Maps Go.WideMaps
set_option linter.unusedSimpArgs false

/-- What the builder hands back. -/
def Builds (a : Option Addr) (len cap : Nat) (w : World) : Prop :=
  Calls Yba.prog 7 #[.slice a len cap] w fun e w' => ∃ O mb nn Dm sh, e = .returned (.pointer (some ⟨O, 0, none⟩)) ∧ St w' w.heap.size w'.heap.size O mb nn len Dm sh (fun _ _ => 0) (fun _ _ => 0) (fun _ _ _ => 0) ∧ Below w.heap.size w w'

theorem BY.wide {B : Nat} {w w' : World} {a : Option Addr} {len : Nat} {X : Nat → Int} (h : BY B w a len X) (hb : Below B w w') (hB : B ≤ w'.heap.size) : BY w'.heap.size w' a len X := by
  intro hp
  obtain ⟨b, off, ha, hbb, hc⟩ := h.later hb hp
  exact ⟨b, off, ha, by omega, hc⟩

theorem zero26 (w : World) : (zeroValue 26).run Yba.prog w = .ok (.pointer none) w := by kernel_rfl
theorem lookG {W : World} {mb nn N : Nat} {Dm : DataW Nat} {f : Nat → Nat} (h : W.ownsMap Yba.prog 9 Rp mb nn Dm) (ht : Tab Dm (fun i => decide (i < N)) (fun i => .lit (.int .i64 (f i)))) (i : Nat) (hi : i < N) (h256 : N ≤ 256) :
    (Instr.lookup 27 (.map (some mb)) (.string (key i)) false).run Yba.prog W = .ok (.pointer (some ⟨f i, 0, none⟩)) W := by
  obtain ⟨v, ps, hrun, hv⟩ := h.lookup (e := 26) K9 Yba.underlying27 (zero26 W) (zd := .nil) (zp := []) rfl (keyOf_key i)
  rw [ht.at_ i (by omega) (by simpa using hi)] at hv
  rw [hrun, Rp_inv hv rfl]

theorem pick_bounds {B : Nat} {w : World} {a : Option Addr} {len : Nat} {X : Nat → Int} (h : BY B w a len X) (c : Nat) : 0 ≤ pick X len c ∧ pick X len c ≤ 255 := by
  unfold pick
  split
  · omega
  · obtain ⟨b, off, _, _, hc⟩ := h (by omega)
    exact (hc (c % len) (Nat.mod_lt _ (by omega))).2
theorem frozen_row {w : World} {b : Nat} {cs : Array Value} {t : TypeId} (h : w.heap[b]? = some (.cells cs t (0, 0))) (o : Nat) : w.frozen? ⟨b, o, none⟩ = false := by
  simp [World.frozen?, h]

theorem upd2 (A : Nat → Nat → Int) (m p : Nat) (y : Int) (m' q : Nat) : updV A m (updV (A m) p y) m' q = if m' = m ∧ q = p then y else A m' q := by
  by_cases h : m' = m
  · subst h
    by_cases h2 : q = p <;> simp [updV, h2]
  · simp [updV, h]
theorem stab_all (r : Int) (A : Nat → Nat → Int) (p : Nat) : ∀ m, (∀ j, j < m → r ≤ A j p) → stabTo r A p m = r
  | 0, _ => rfl
  | m + 1, h => by
    have ih := stab_all r A p m (fun j hj => h j (by omega))
    have := h m (by omega)
    unfold stabTo
    split <;> omega
theorem total_zero (f : Nat → Int) : ∀ n, (∀ i, i < n → f i = 0) → total f n = 0
  | 0, _ => rfl
  | n + 1, h => by unfold total; rw [total_zero f n (fun i hi => h i (by omega)), h n (by omega)]; rfl
theorem held_zero {n : Nat} {D : Nat → Int} {K : Nat → Nat} {A : Nat → Nat → Int} (h : ∀ m p, m < n → p < n → D p + K p ≤ A m p) : heldTo D K A n n = 0 := by
  refine total_zero _ n (fun p hp => ?_)
  rw [stab_all _ A p n (fun j hj => h j p hj hp)]
  omega

set_option maxRecDepth 100000 in
set_option maxHeartbeats 3200000 in
theorem ackedC (a0 a1 a2 a3 : Option Addr) (l0 l1 l2 l3 c0 c1 c2 c3 : Nat) (X1 X2 X3 : Nat → Int) (w : World) (HB : Builds a0 l0 c0 w) (h0 : l0 ≤ 256) (h1 : l1 ≤ 1024) (h2 : l2 ≤ 1024) (h3 : l3 ≤ 1024)
    (b1 : BY w.heap.size w a1 l1 X1) (b2 : BY w.heap.size w a2 l2 X2) (b3 : BY w.heap.size w a3 l3 X3) :
    Calls Yba.prog 4 #[.slice a0 l0 c0, .slice a1 l1 c1, .slice a2 l2 c2, .slice a3 l3 c3] w fun e w' => e = .returned (.bool true) ∧ Below w.heap.size w w' := by
  have HB1 : Hid (BY w.heap.size w a1 l1 X1) := b1
  have HB2 : Hid (BY w.heap.size w a2 l2 X2) := b2
  have HB3 : Hid (BY w.heap.size w a3 l3 X3) := b3
  have g0 : ¬ ((256 : Int) < (l0 : Int)) := by omega
  have g1 : ¬ ((1024 : Int) < (l1 : Int)) := by omega
  have g2 : ¬ ((1024 : Int) < (l2 : Int)) := by omega
  have g3 : ¬ ((1024 : Int) < (l3 : Int)) := by omega
  have HBB : Hid (Builds a0 l0 c0 w) := HB
  clear b1 b2 b3 HB
  go_enter Yba.func4, Yba.ntmps4
  go_wp2_with (go_at_call 7; refine Calls.mono HBB.out ?_; rintro e w1 ⟨O, mb, nn, Dm, sh, rfl, hst, hb1⟩)
  have HB1B : Hid (Below w.heap.size w w1) := hb1
  have HST : Hid (St w1 w.heap.size w1.heap.size O mb nn l0 Dm sh (fun _ _ => 0) (fun _ _ => 0) (fun _ _ _ => 0)) := hst
  obtain ⟨B, hBe⟩ : ∃ B, w1.heap.size = B := ⟨_, rfl⟩
  rw [hBe] at HST
  have hBw : w.heap.size ≤ B := by rw [← hBe]; exact hb1.size
  clear hst hb1 hBe
  go_loopg [10, 40] l0 (fun g v i wr => ∃ n c : Nat, g = l0 - n ∧ n ≤ l0 ∧ i = .int .i64 n ∧ v = .int .i64 c ∧ c ≤ 20 * n ∧ Below w.heap.size w wr ∧ ∃ D K A, St wr w.heap.size B O mb nn l0 Dm sh D K A ∧ (∀ j, j < l0 → Fits (sh j).n (D j) (K j) (A j)) ∧
    (∀ j, j < n → ∀ m p, m < (sh j).n → p < (sh j).n → D j p + K j p ≤ A j m p))
  case atStart => exact ⟨0, 0, rfl, Nat.zero_le _, rfl, rfl, Nat.zero_le _, HB1B.out, _, _, _, HST.out, fun j _ => ⟨by simp, by simp, by simp, by simp⟩, fun j hj => by omega⟩
  case round =>
    obtain ⟨n, c, rfl, hn, rfl, rfl, hc, hbel, D, K, A, hst, hft, hge⟩ := hrel
    have HBEL : Hid (Below w.heap.size w wr) := hbel
    have HS : Hid (St wr w.heap.size B O mb nn l0 Dm sh D K A) := hst
    have HF : Hid (∀ j, j < l0 → Fits (sh j).n (D j) (K j) (A j)) := hft
    have HGE : Hid (∀ j, j < n → ∀ m p, m < (sh j).n → p < (sh j).n → D j p + K j p ≤ A j m p) := hge
    clear hbel hst hft hge HST HB1B
    have cO := HS.out.cO
    by_cases hlt : n < l0
    · have hO : O < wr.heap.size := Nat.lt_of_lt_of_le HS.out.oO.1 HS.out.sz
      have hi0 : (0 : Int) ≤ (n : Int) := by omega
      have hlook := lookG (W := (wr.alloc (.cells #[.int .u8 103, .int .u8 n] 5)).drew) (ownsMap_block HS.out.own (Below.heap_alloc _ _ _ HS.out.own.lt)) HS.out.tab n hlt h0
      go_upto_region 8 with fail
      go_cut [12, 40] from 40 to 109 (fun v i wx => v = .pointer (some ⟨(sh n).G, 0, none⟩) ∧ i = .int .i64 n ∧ Below wr.heap.size wr wx)
      case first =>
        go_region_with (go_at_call 8; refine (nameC n _ (by omega)).mono ?_; rintro e w2 ⟨rfl, rfl⟩)
        all_goals (go_wp2_with fail; go_meet)
        all_goals exact ⟨rfl, rfl, ((Below.refl _ _).alloc (Nat.le_refl _) _).drew⟩
      case rest =>
        obtain ⟨rfl, rfl, hbc⟩ := hcut
        have HSC : Hid (St wc w.heap.size B O mb nn l0 Dm sh D K A) := HS.out.keep (hbc.mono HS.out.sz)
        have HBC : Hid (Below w.heap.size w wc) := HBEL.out.trans (hbc.mono HBEL.out.size)
        clear hbc cO hO hlook
        have hGn := HSC.out.g n hlt
        have hlo := HSC.out.lo n hlt
        have hhi := HSC.out.hi n hlt
        have hsz := HSC.out.sz
        have HGn : Hid (Grp wc (sh n) (D n) (K n) (A n)) := hGn
        have hFn : Hid (Fits (sh n).n (D n) (K n) (A n)) := HF.out n hlt
        have cm2 := hGn.cmem
        have h4 := hGn.four
        have hlohi := hGn.lohi
        have hGlt : (sh n).G < wc.heap.size := by have := hGn.bG; omega
        clear hGn
        obtain ⟨s, hs⟩ : ∃ s, sh n = s := ⟨_, rfl⟩
        have HSE : Hid (sh n = s) := hs
        rw [hs] at HGn hFn cm2 h4 hlohi hGlt hlo hhi ⊢
        clear hs
        go_wp2_with fail
        go_loopg [10, 14] s.n (fun g v i wr => ∃ p c' : Nat, g = s.n - p ∧ p ≤ s.n ∧ i = .int .i64 p ∧ v = .int .i64 c' ∧ c' ≤ 20 * n + 5 * p ∧ Away s.lo s.hi wc wr ∧ ∃ Dp Kp Ap, Grp wr s Dp Kp Ap ∧ Fits s.n Dp Kp Ap ∧ ∀ q m, q < p → m < s.n → Dp q + Kp q ≤ Ap m q)
        case atStart => exact ⟨0, c, rfl, Nat.zero_le _, rfl, rfl, by omega, Away.refl _ _ _, _, _, _, HGn.out, hFn.out, fun q m hq => by omega⟩
        case round =>
          obtain ⟨p, c', rfl, hp, rfl, rfl, hc', haw, Dp, Kp, Ap, hg, hfp, hgp⟩ := hrel
          have HA : Hid (Away s.lo s.hi wc wr) := haw
          have HG : Hid (Grp wr s Dp Kp Ap) := hg
          have HFP : Hid (Fits s.n Dp Kp Ap) := hfp
          have HGP : Hid (∀ q m, q < p → m < s.n → Dp q + Kp q ≤ Ap m q) := hgp
          clear haw hg hfp hgp
          by_cases hpl : p < s.n
          · have HBW : Hid (Below w.heap.size w wr) := HBC.out.trans ((HA.out.below (Nat.le_trans hhi hsz) hlohi).mono hlo)
            have hsz2 : B ≤ wr.heap.size := Nat.le_trans hsz HA.out.size
            have HP1 := pickC a1 l1 c1 X1 c' wr h1 (by omega) (HB1.out.wide HBW.out (by omega))
            have HP2 := pickC a2 l2 c2 X2 c' wr h2 (by omega) (HB2.out.wide HBW.out (by omega))
            have hd := pick_bounds HB1.out c'
            have hk := pick_bounds HB2.out c'
            obtain ⟨kk, hkk⟩ : ∃ kk : Nat, pick X2 l2 c' % 4 = (kk : Int) := ⟨(pick X2 l2 c' % 4).toNat, by omega⟩
            have hk3 : kk ≤ 3 := by omega
            generalize pick X1 l1 c' = d at *
            generalize pick X2 l2 c' = k0 at *
            have d11 := HG.out.cdrop
            have dcl := HG.out.dropAt p hpl
            have dfz := frozen_row HG.out.drop p
            have hdlt : s.dr < wr.heap.size := by have := HG.out.bdr; omega
            have hGlt2 : s.G < wr.heap.size := by have := HG.out.bG; omega
            have hi0 : (0 : Int) ≤ (p : Int) := by omega
            have hi1 : (p : Int) < (s.n : Int) := by omega
            go_upto_region 14 with (go_at_call 9; refine HP1.mono ?_; rintro e w2 ⟨rfl, hw2⟩; rw [hw2]; clear hw2)
            go_upto_region 17 with (go_at_call 9; refine HP2.mono ?_; rintro e w2 ⟨rfl, hw2⟩; rw [hw2]; clear hw2)
            have HG2 : Hid (Grp (wr.setCell ⟨s.dr, p, none⟩ (.int .u64 d)) s (updV Dp p d) Kp Ap) := HG.out.setDrop p d
            have HA2 : Hid (Away s.lo s.hi wc (wr.setCell ⟨s.dr, p, none⟩ (.int .u64 d))) := HA.out.setCell HG.out.bdr.1 HG.out.bdr.2 _
            have hsz3 : B ≤ (wr.setCell ⟨s.dr, p, none⟩ (.int .u64 d)).heap.size := by simpa [World.setCell] using hsz2
            generalize wr.setCell ⟨s.dr, p, none⟩ (.int .u64 d) = w2 at *
            clear d11 dcl dfz hdlt hGlt2 HP1 HP2 hkk hk
            obtain ⟨cs, hmk⟩ := mk59 kk hk3
            have e10 := HG2.out.ckept
            obtain ⟨ak0, ekp⟩ := HG2.out.keptAt p hpl
            have efz : w2.frozen? ⟨s.kp, p, none⟩ = false := by obtain ⟨V, hV, _⟩ := HG2.out.kept; exact frozen_row hV p
            have hkplt : s.kp < w2.heap.size := by have := HG2.out.bkp; omega
            have hGlt3 : s.G < w2.heap.size := by have := HG2.out.bG; omega
            go_region
            go_wp2_with fail
            have HG3 : Hid (Grp ((w2.setCell ⟨s.kp, p, none⟩ (.slice (some ⟨w2.heap.size, 0, none⟩) kk kk)).alloc (.cells cs 149)).drew s (updV Dp p d) (updV Kp p kk) Ap) :=
              ((HG2.out.setKept p _ kk).alloc (by simp [World.setCell]; omega) _).drewN 1
            have HA3 : Hid (Away s.lo s.hi wc ((w2.setCell ⟨s.kp, p, none⟩ (.slice (some ⟨w2.heap.size, 0, none⟩) kk kk)).alloc (.cells cs 149)).drew) := ((HA2.out.setCell HG2.out.bkp.1 HG2.out.bkp.2 _).alloc _).drew
            generalize ((w2.setCell ⟨s.kp, p, none⟩ (.slice (some ⟨w2.heap.size, 0, none⟩) kk kk)).alloc (.cells cs 149)).drew = w3 at *
            clear e10 ekp efz hkplt hGlt3 hmk HG2 HA2 hsz3
            have HF3 : Hid (Fits s.n (updV Dp p d) (updV Kp p kk) Ap) := ⟨fun q hq => by simp only [updV]; split <;> first | omega | exact HFP.out.d0 q hq, fun q hq => by simp only [updV]; split <;> first | omega | exact HFP.out.d1 q hq, fun q hq => by simp only [updV]; split <;> first | omega | exact HFP.out.k1 q hq, HFP.out.a0⟩
            have HP3 : Hid (∀ q m, q < p → m < s.n → updV Dp p d q + updV Kp p kk q ≤ Ap m q) := fun q m hq hm => by have := HGP.out q m hq hm; simp only [updV, if_neg (show ¬ q = p by omega)]; exact this
            have eD : updV Dp p d p = d := by simp [updV]
            have eK : updV Kp p kk p = kk := by simp [updV]
            generalize updV Dp p d = D3 at *
            generalize updV Kp p kk = K3 at *
            go_loopg [10, 17] s.n (fun g v i wr => ∃ m c' : Nat, g = s.n - m ∧ m ≤ s.n ∧ i = .int .i64 m ∧ v = .int .i64 c' ∧ c' ≤ 20 * n + 5 * p + 1 + m ∧ Away s.lo s.hi wc wr ∧ ∃ A3, Grp wr s D3 K3 A3 ∧ Fits s.n D3 K3 A3 ∧ (∀ q m, q < p → m < s.n → D3 q + K3 q ≤ A3 m q) ∧ ∀ m', m' < m → D3 p + K3 p ≤ A3 m' p)
            case atStart => exact ⟨0, c' + 1, rfl, Nat.zero_le _, rfl, rfl, by omega, HA3.out, Ap, HG3.out, HF3.out, HP3.out, fun m' h => by omega⟩
            case round =>
              obtain ⟨m, c2', rfl, hm, rfl, rfl, hc2, haw, A3, hg, hfp, hgp, hgm⟩ := hrel
              have HA : Hid (Away s.lo s.hi wc wr) := haw
              have HG : Hid (Grp wr s D3 K3 A3) := hg
              have HFP : Hid (Fits s.n D3 K3 A3) := hfp
              have HGP : Hid (∀ q m, q < p → m < s.n → D3 q + K3 q ≤ A3 m q) := hgp
              have HGM : Hid (∀ m', m' < m → D3 p + K3 p ≤ A3 m' p) := hgm
              clear haw hg hfp hgp hgm HG3 HF3 HP3 HA3
              by_cases hml : m < s.n
              · have HBW : Hid (Below w.heap.size w wr) := HBC.out.trans ((HA.out.below (Nat.le_trans hhi hsz) hlohi).mono hlo)
                have hsz2 : B ≤ wr.heap.size := Nat.le_trans hsz HA.out.size
                have HBY : BY wr.drew.heap.size wr.drew a3 l3 X3 := HB3.out.wide HBW.out.drew (show w.heap.size ≤ wr.heap.size by omega)
                have HP := pickC a3 l3 c3 X3 c2' wr.drew h3 (by omega) HBY
                clear HBY
                have hx := pick_bounds HB3.out c2'
                generalize pick X3 l3 c2' = x at *
                have f14 := HG.out.cacks
                have fak := HG.out.acksAt m hml
                have far := HG.out.ackAt m p hml hpl
                have ffz := frozen_row (HG.out.ack m hml) p
                have hGl : s.G < wr.heap.size := by have := HG.out.bG; omega
                have hakl : s.ak < wr.heap.size := by have := HG.out.bak; omega
                have harl : s.ar m < wr.heap.size := by have := HG.out.bar m hml; omega
                have hj0 : (0 : Int) ≤ (m : Int) := by omega
                have hj1 : (m : Int) < (s.n : Int) := by omega
                have hw1 : IntKind.u64.wrap (kk : Int) = kk := by rw [IntKind.wrap_u64]; omega
                have hw2 : IntKind.u64.wrap (d + (kk : Int)) = d + kk := by rw [IntKind.wrap_u64]; omega
                have hw3 : IntKind.u64.wrap (d + (kk : Int) + x) = d + kk + x := by rw [IntKind.wrap_u64]; omega
                go_upto_region 21 with fail
                go_cut [17] from 85 to 108 (fun v wx => v = .int .i64 m ∧ ∃ q, wx = (wr.setCell ⟨s.ar m, p, none⟩ (.int .u64 (d + kk + x))).drewN q)
                case first =>
                  go_region_with (go_at_call 9; refine HP.mono ?_; rintro e w2 ⟨rfl, hw2⟩; rw [hw2]; clear hw2)
                  all_goals (go_wp2_with fail; go_meet)
                  all_goals exact ⟨rfl, 1, rfl⟩
                case rest =>
                  obtain ⟨rfl, q, rfl⟩ := hcut
                  have HG4 : Hid (Grp ((wr.setCell ⟨s.ar m, p, none⟩ (.int .u64 (d + kk + x))).drewN q) s D3 K3 (updV A3 m (updV (A3 m) p (d + kk + x)))) := (HG.out.setAck m p hml _).drewN q
                  have HA4 : Hid (Away s.lo s.hi wc ((wr.setCell ⟨s.ar m, p, none⟩ (.int .u64 (d + kk + x))).drewN q)) := (HA.out.setCell (HG.out.bar m hml).1 (HG.out.bar m hml).2 _).drewN q
                  have HF4 : Hid (Fits s.n D3 K3 (updV A3 m (updV (A3 m) p (d + kk + x)))) := ⟨HFP.out.d0, HFP.out.d1, HFP.out.k1, fun m' q' h1' h2' => by
                    rw [upd2]
                    split
                    · omega
                    · exact HFP.out.a0 m' q' h1' h2'⟩
                  have HP4 : Hid (∀ q' m', q' < p → m' < s.n → D3 q' + K3 q' ≤ updV A3 m (updV (A3 m) p (d + kk + x)) m' q') := fun q' m' h1' h2' => by
                    have := HGP.out q' m' h1' h2'
                    rw [upd2, if_neg (fun e => by omega)]
                    exact this
                  have HM4 : Hid (∀ m', m' < m + 1 → D3 p + K3 p ≤ updV A3 m (updV (A3 m) p (d + kk + x)) m' p) := fun m' h1' => by
                    rw [upd2]
                    split
                    · rw [eD, eK]; omega
                    · rename_i e
                      exact HGM.out m' (by omega)
                  generalize updV A3 m (updV (A3 m) p (d + kk + x)) = A4 at *
                  generalize ((wr.setCell ⟨s.ar m, p, none⟩ (.int .u64 (d + kk + x))).drewN q) = w4 at *
                  clear f14 fak far ffz hGl hakl harl HP HBW hw1 hw2 hw3
                  go_wp2_with fail
                  go_roundg (s.n - (m + 1))
                  case measure => omega
                  case rel => exact ⟨m + 1, c2' + 1, rfl, by omega, by go_num, by go_num, by omega, HA4.out, A4, HG4.out, HF4.out, HP4.out, HM4.out⟩
              · obtain rfl : m = s.n := by omega
                have HPE : Hid (∀ q m, q < p + 1 → m < s.n → D3 q + K3 q ≤ A3 m q) := fun q m hq hm => by
                  by_cases e : q = p
                  · subst e; exact HGM.out m hm
                  · exact HGP.out q m (by omega) hm
                go_wp2_with fail
                go_roundg (s.n - (p + 1))
                case measure => omega
                case rel => exact ⟨p + 1, c2', rfl, by omega, by go_num, rfl, by omega, HA.out, D3, K3, A3, HG.out, HFP.out, HPE.out⟩
          · obtain rfl : p = s.n := by omega
            have HSTEP : Hid (St wr w.heap.size B O mb nn l0 Dm sh (updV D n Dp) (updV K n Kp) (updV A n Ap)) := HSC.out.step n hlt (by rw [HSE.out]; exact HA.out) (by rw [HSE.out]; exact HG.out)
            have HBW : Hid (Below w.heap.size w wr) := HBC.out.trans ((HA.out.below (Nat.le_trans hhi hsz) hlohi).mono hlo)
            have HF5 : Hid (∀ j, j < l0 → Fits (sh j).n (updV D n Dp j) (updV K n Kp j) (updV A n Ap j)) := fun j hj => by
              by_cases e : j = n
              · subst e; simp only [updV, if_true]; rw [HSE.out]; exact HFP.out
              · simp only [updV, if_neg e]; exact HF.out j hj
            have HGE5 : Hid (∀ j, j < n + 1 → ∀ m p, m < (sh j).n → p < (sh j).n → updV D n Dp j p + updV K n Kp j p ≤ updV A n Ap j m p) := fun j hj m p' hm hp' => by
              by_cases e : j = n
              · subst e; rw [HSE.out] at hm hp'; simp only [updV, if_true]; exact HGP.out p' m hp' hm
              · simp only [updV, if_neg e]; exact HGE.out j (by omega) m p' hm hp'
            go_wp2_with fail
            go_roundg (l0 - (n + 1))
            case measure => omega
            case rel => exact ⟨n + 1, c', rfl, by omega, by go_num, rfl, by omega, HBW.out, _, _, _, HSTEP.out, HF5.out, HGE5.out⟩
    · obtain rfl : n = l0 := by omega
      have HRET := retainedC O mb nn n Dm sh D K A wr h0 cO HS.out.own HS.out.tab HS.out.g (fun i hi => Nat.le_trans (HS.out.hi i hi) HS.out.sz) HF.out
      rw [total_zero _ n (fun i hi => held_zero (HGE.out i hi))] at HRET
      clear cO
      go_wp2_with (go_at_call 10; refine HRET.mono ?_; rintro e w4 ⟨rfl, hb4⟩)
      go_ret
      exact ⟨rfl, HBEL.out.trans (hb4.mono HBEL.out.size)⟩
end Go.Proofs.Ybulkamje
