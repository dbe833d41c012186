import Derived.Test.YbulkamjeLoop
import Derived.Deep.CutRange
namespace Go.Proofs.Ybulkamje
open Go.RowKit Go.Maps Go.WideMaps Go.Shelf Go.Sort
set_option linter.unusedSimpArgs false

theorem wpList_buildO {ops : Array Oper} {rest : List Oper} {o : Oper} {a : Act} {w : World} {Q : Exit → Act → World → Prop} (hgd : o.guard = none) (x0 x1 x2 x3 x4 x6 x7 x12 x14 x15 x16 x21 : Operand) (ho : o.op = .build 41 #[(0, x0), (1, x1), (2, x2), (3, x3), (4, x4), (6, x6), (7, x7), (12, x12), (14, x14), (15, x15), (16, x16), (21, x21)])
    (av : Option Addr) (n c m1 m3 m4 m6 m7 m12 m14 m15 m16 : Nat) (h0 : a.eval x0 = .string ⟨#[97]⟩) (h1 : a.eval x1 = .map (some m1)) (h2 : a.eval x2 = .slice av n c) (h3 : a.eval x3 = .map (some m3)) (h4 : a.eval x4 = .map (some m4)) (h6 : a.eval x6 = .map (some m6)) (h7 : a.eval x7 = .map (some m7)) (h12 : a.eval x12 = .map (some m12)) (h14 : a.eval x14 = .map (some m14)) (h15 : a.eval x15 = .map (some m15)) (h16 : a.eval x16 = .map (some m16)) (h21 : a.eval x21 = .int .i64 16777216)
    (h : ∀ cs : Array Value, cs[1]? = some (.map (some m1)) → cs[2]? = some (.slice av n c) → cs[16]? = some (.map (some m16)) → wpList Yba.prog ops Q rest (a.put o.dst (.agg cs)) w) : wpList Yba.prog ops Q (o :: rest) a w := by
  obtain ⟨cs, hb, k1, k2, k16⟩ := builtO av n c m1 m3 m4 m6 m7 m12 m14 m15 m16
  exact wpList_build41 hgd x0 x1 x2 x3 x4 x6 x7 x12 x14 x15 x16 x21 ho _ _ _ _ _ _ _ _ _ _ _ _ h0 h1 h2 h3 h4 h6 h7 h12 h14 h15 h16 h21 cs hb (h cs k1 k2 k16)

theorem namesOf {w2 : World} {base N : Nat} {v : Value} (hrow : w2.ownsRow base 9 1 v N ((kL N).map encStr)) :
    ∃ av nv cv, v = .slice av nv cv ∧ (0 < N → ∃ nb, av = some ⟨nb, 0, none⟩ ∧ nv = N ∧ base ≤ nb ∧ nb < w2.heap.size ∧ ∀ j, j < N → w2.cell? ⟨nb, j, none⟩ = some (.string (key j))) := by
  rcases hrow.2 with ⟨h0, hn⟩ | ⟨g, cap, cur, hv, hb, hg, _⟩
  · exact ⟨none, 0, 0, h0, fun h => by omega⟩
  · subst hv
    refine ⟨_, _, _, rfl, fun _ => ⟨g, rfl, rfl, hb, (Array.getElem?_eq_some_iff.1 hg).1, fun j hj => ?_⟩⟩
    rw [cellOfOwn hrow j hj]
    simp [kL, hj, encStr, key]

theorem below8 (w : World) : Below w.heap.size w ((((((((w.alloc (.map #[] 0)).alloc (.map #[] 0)).alloc (.map #[] 0)).alloc (.map #[] 0)).alloc (.map #[] 0)).alloc (.map #[] 0)).alloc (.map #[] 0)).alloc (.map #[] 0)) :=
  ((((((((Below.refl _ w).alloc (by simp) _).alloc (by simp) _).alloc (by simp; omega) _).alloc (by simp; omega) _).alloc (by simp; omega) _).alloc (by simp; omega) _).alloc (by simp; omega) _).alloc (by simp; omega) _

set_option maxRecDepth 100000 in
set_option maxHeartbeats 1600000 in
theorem newOrderC (gb gn N : Nat) (Dg : DataW Nat) (rb sz cp : Nat → Nat) (w : World) (hN : N ≤ 256) (hgn : gn ≤ 256) (hown : w.ownsMap Yba.prog 9 Rs gb gn Dg)
    (htab : Tab Dg (fun i => decide (i < N)) (fun i => .agg [.lit (.int .i64 (rb i)), .lit (.int .i64 (sz i)), .lit (.int .i64 (cp i))])) (hsz : ∀ i, i < N → 1 ≤ sz i ∧ sz i ≤ 4) (hrb : ∀ i, i < N → rb i < w.heap.size ∧ ∀ j, j < sz i → w.cell? ⟨rb i, j, none⟩ = some (.string (mem j))) :
    Calls Yba.prog 13 #[.string ⟨#[97]⟩, .map (some gb)] w fun e w' => ∃ O mb nn Dm sh, e = .returned (.pointer (some ⟨O, 0, none⟩)) ∧ St w' w.heap.size w'.heap.size O mb nn N Dm sh (fun _ _ => 0) (fun _ _ => 0) (fun _ _ _ => 0) ∧ Below w.heap.size w w' := by
  have hgl := hown.lt
  have hown1 : (w.alloc (.map #[] 0)).ownsMap Yba.prog 9 Rs gb gn Dg := hown.alloc _
  have hsize := hown.size_le
  have HK := (callsIn_wide (n := 5)).1 (Yba.maps_Keys_22 (some gb) (w.alloc (.map #[] 0)))
  have HS := (callsIn_wide (n := 5)).1 (Yba.slices_Sorted_keys_21_22 gb gn Dg Rs (w.alloc (.map #[] 0)) hown1 (by unfold maxLen; omega) (by omega))
  have e1 : (w.alloc (.map #[] 0)).heap.size = w.heap.size + 1 := by simp
  have e2 : ((w.alloc (.map #[] 0)).alloc (.cells #[.map (some gb)] 70)).heap.size = w.heap.size + 1 + 1 := by simp
  rw [e1] at HK
  rw [e1, e2] at HS
  clear e1 e2
  have HOWN1 : Hid ((w.alloc (.map #[] 0)).ownsMap Yba.prog 9 Rs gb gn Dg) := hown1
  have HOWM1 : Hid ((w.alloc (.map #[] 0)).ownsMap Yba.prog 9 Rp w.heap.size 0 (.map [])) := World.ownsMap_made _ _ _ _
  have HT : Hid (Tab Dg (fun i => decide (i < N)) (fun i => .agg [.lit (.int .i64 (rb i)), .lit (.int .i64 (sz i)), .lit (.int .i64 (cp i))])) := htab
  have HSZ : Hid (∀ i, i < N → 1 ≤ sz i ∧ sz i ≤ 4) := hsz
  have HRB : Hid (∀ i, i < N → rb i < w.heap.size ∧ ∀ j, j < sz i → w.cell? ⟨rb i, j, none⟩ = some (.string (mem j))) := hrb
  clear hown hown1 htab hsz hrb
  have hmm := fun t W => run_makeMap (P := Yba.prog) t W
  go_enter Yba.func13, Yba.ntmps13
  go_wp2_with (first
    | (go_at_call 22; refine HK.mono ?_; rintro e w1 ⟨rfl, rfl⟩)
    | (go_at_call 21; refine HS.mono ?_; rintro e w2 ⟨v, ss, rfl, hperm, hrow, hiff, hb2⟩; clear hiff HS HK; have hss := keysSorted HOWN1.out HT.out hN hperm; rw [hss.1, hss.2] at hrow; clear hss hperm; obtain ⟨av, nv, cv, rfl, hnm⟩ := namesOf hrow; clear hrow; have HNM : Hid _ := hnm; clear hnm; have HB2 : Hid (Below w.heap.size w w2) := (((Below.refl _ w).alloc (Nat.le_refl _) _).alloc (by simp) _).trans (hb2.mono (by omega)); have HBM : Hid _ := hb2; clear hb2)
    | (refine wpList_insert_own _ rfl (.tmp 22) (.tmp 23) (.const (.bool true)) 29 rfl 4 Yba.underlying29 Rb _ 0 (.map []) rfl (made_at _ _ Rb (by simp)) (by decide) _ _ _ rfl rfl keyOf_a .nil [] rfl ?_; intro w3 hown3 hgr3; have hb3 : Below w2.heap.size w2 w3 := Below.grown (below8 w2) hgr3 (by simp; omega) (fun k e => by cases e; omega); have HB3 : Hid (Below w2.heap.size w2 w3) := hb3; have HC3 : Hid (w3.ownsMap Yba.prog 9 Rb _ _ _) := hown3; have hcl := hown3.lt; clear hown3 hgr3 hb3)
    | (refine wpList_buildO rfl (.tmp 10) (.tmp 11) (.tmp 14) (.tmp 15) (.tmp 16) (.tmp 17) (.tmp 18) (.tmp 19) (.tmp 20) (.tmp 21) (.tmp 24) (.const (.int .i64 16777216)) rfl _ _ _ _ _ _ _ _ _ _ _ _ rfl rfl rfl rfl rfl rfl rfl rfl rfl rfl rfl rfl ?_; intro cs k1 k2 k16; simp only [Act.put, List.setIfInBounds_toArray, List.set_cons_zero, List.set_cons_succ]; refine wpList_box rfl 41 (.tmp 25) rfl cs rfl ?_; simp only [Act.put, List.setIfInBounds_toArray, List.set_cons_zero, List.set_cons_succ]; have HK1 : Hid _ := k1; have HK2 : Hid _ := k2; have HK16 : Hid _ := k16; clear k1 k2 k16; have HO : Hid ((w3.alloc (.cells cs 41)).heap[w3.heap.size]? = some (.cells cs 41 (0, 0))) := heap_alloc_new _ _; have HB4 : Hid (Below w2.heap.size w2 (w3.alloc (.cells cs 41))) := HB3.out.alloc HB3.out.size _; have HC4 : Hid ((w3.alloc (.cells cs 41)).ownsMap Yba.prog 9 Rb _ _ _) := HC3.out.alloc _; have hs4 : w3.heap.size < (w3.alloc (.cells cs 41)).heap.size := (by simp); generalize w3.alloc (.cells cs 41) = w4 at *; generalize w3.heap.size = O at *; clear HB3 HC3; have HB14 : Hid (Below (w.heap.size + 1) (w.alloc (.map #[] 0)) w4) := (((Below.refl _ (w.alloc (.map #[] 0))).alloc (by simp) _).trans (HBM.out.mono (by omega))).trans (HB4.out.mono (by have := HBM.out.size; simp at this; omega)); have HG4 : Hid (w4.ownsMap Yba.prog 9 Rs gb gn Dg) := ownsMap_block HOWN1.out (HB14.out.block gb (by omega)); have HM4 : Hid (w4.ownsMap Yba.prog 9 Rp w.heap.size 0 (.map [])) := ownsMap_block HOWM1.out (HB14.out.block w.heap.size (by omega)); clear HOWN1 HOWM1)
    | (refine wpList_range_own _ rfl (.tmp 27) 70 rfl 9 28 K9 Yba.underlying70 Rs gb gn Dg rfl HG4.out ?_; intro w5 hr5 hgr5 hs5; have HR5 : Hid (w5.ranges Yba.prog 9 Rs gb w4.heap.size gn Dg (Maps.has Dg) (Maps.size Dg)) := hr5; have hb5 : Below w4.heap.size w4 w5 := (Below.refl _ _).grown hgr5 (Nat.le_refl _) (fun k e => by cases e); have HB5 : Hid (Below w4.heap.size w4 w5) := hb5; clear hr5 hgr5 hb5))
  try simp only [Act.put, List.setIfInBounds_toArray, List.set_cons_zero, List.set_cons_succ]

  have HB25 : Hid (Below w2.heap.size w2 w5) := HB4.out.trans (HB5.out.mono HB4.out.size)
  have hlw2 : w.heap.size + 1 + 1 ≤ w2.heap.size := by have := HBM.out.size; simp at this; omega
  have hO5 : O < w5.heap.size := by omega
  have F1 : w5.cell? ⟨O, 1, none⟩ = some (.map (some w.heap.size)) := (HB5.out.cell (p := ⟨O, 1, none⟩) hs4).trans (by rw [cell_of_row w4 O 1 _ 41 (0, 0) HO.out]; exact HK1.out)
  have F2 : w5.cell? ⟨O, 2, none⟩ = some (.slice av nv cv) := (HB5.out.cell (p := ⟨O, 2, none⟩) hs4).trans (by rw [cell_of_row w4 O 2 _ 41 (0, 0) HO.out]; exact HK2.out)
  have F16 : w5.cell? ⟨O, 16, none⟩ = some (.map (some (w2.heap.size + 1 + 1 + 1 + 1 + 1 + 1 + 1))) := (HB5.out.cell (p := ⟨O, 16, none⟩) hs4).trans (by rw [cell_of_row w4 O 16 _ 41 (0, 0) HO.out]; exact HK16.out)
  have HF1 : Hid _ := F1
  have HF2 : Hid _ := F2
  have HF16 : Hid _ := F16
  have HM5 : Hid (w5.ownsMap Yba.prog 9 Rp w.heap.size 0 (.map [])) := ownsMap_block HM4.out (HB5.out.block _ (by omega))
  have HC5 : Hid (w5.ownsMap Yba.prog 9 Rb (w2.heap.size + 1 + 1 + 1 + 1 + 1 + 1 + 1) (0 + 1) ((DataW.map []).put (Lit.string [97]) DataW.nil)) := ownsMap_block HC4.out (HB5.out.block _ (by omega))
  have HBW5 : Hid (Below w.heap.size w w5) := HB2.out.trans (HB25.out.mono (by omega))
  have HNM5 : Hid (0 < N → ∃ nb, av = some ⟨nb, 0, none⟩ ∧ nv = N ∧ w.heap.size + 1 + 1 ≤ nb ∧ nb < w2.heap.size ∧ ∀ j, j < N → w5.cell? ⟨nb, j, none⟩ = some (.string (key j))) := fun h0 => by
    obtain ⟨nb, h1, h2, h3, h4, h5⟩ := HNM.out h0
    exact ⟨nb, h1, h2, h3, h4, fun j hj => (HB25.out.cell (p := ⟨nb, j, none⟩) h4).trans (h5 j hj)⟩
  have HRB5 : Hid (∀ i, i < N → rb i < w.heap.size ∧ ∀ j, j < sz i → w5.cell? ⟨rb i, j, none⟩ = some (.string (mem j))) := fun i hi => ⟨(HRB.out i hi).1, fun j hj => (HBW5.out.cell (p := ⟨rb i, j, none⟩) (HRB.out i hi).1).trans ((HRB.out i hi).2 j hj)⟩
  have hr4 : w4.heap.size < w5.heap.size := by omega
  clear HRB HNM HBM HB25 HB4 HB5 HC4 HM4 HO HK1 HK2 HK16 F1 F2 F16 HB14 HG4 HB2 hs5
  generalize w4.heap.size = r at *
  obtain ⟨cb, hcb⟩ : ∃ cb, w2.heap.size + 1 + 1 + 1 + 1 + 1 + 1 + 1 = cb := ⟨_, rfl⟩
  have HCB : Hid (w2.heap.size + 1 + 1 + 1 + 1 + 1 + 1 + 1 = cb) := hcb
  rw [hcb] at HF16 HC5 hcl
  have hn1 : w.heap.size + 1 < cb := by omega
  have hn2 : w2.heap.size ≤ cb := by omega
  clear hcb
  go_loopg [6] (Maps.size Dg) (fun g v wr => ∃ left nn cn Dm Dc sh, Lp w5 wr N w.heap.size cb r gb gn Dg left g nn cn Dm Dc sh)
  case atStart => exact ⟨_, _, _, _, _, _, Lp.start hN hgn HT.out HR5.out HM5.out HC5.out (by omega)⟩
  case round =>
    obtain ⟨left, nn, cn, Dm, Dc, sh, hlp⟩ := hrel
    have HL : Hid (Lp w5 wr N w.heap.size cb r gb gn Dg left gk nn cn Dm Dc sh) := hlp
    clear hlp
    have hwr := HL.out.fr.size
    rcases HL.out.rg.next K9 0 with ⟨h0, hl, hrun⟩ | ⟨ky, v, kl, y, w6, cnt', hkey, hlk, hv, hat, hrun, hrg2, hlt, hgr, hsz, hen⟩
    · have hnx : ∀ ty, (Instr.next (.pointer (some ⟨r, 0, none⟩)) false ty).run Yba.prog wr = _ := fun _ => hrun
      have HE : Hid _ := HL.out.done hl O w.heap.size (by omega) hO5 (by omega) ((HL.out.fr.cell (p := ⟨O, 1, none⟩) hO5 (by show O ≠ _; omega) (by show O ≠ _; omega) (by show O ≠ _; omega)).trans HF1.out)
      clear hrun hl
      go_wp2
      go_ret
      exact ⟨O, w.heap.size, nn, Dm, sh, rfl, HE.out, HBW5.out.trans (HL.out.fr.below (by omega) (Nat.le_refl _) (by have := HCB.out; omega) (by omega))⟩
    · obtain ⟨i, hi, rfl⟩ := HL.out.lf kl hlk
      obtain rfl := key_of hkey
      obtain rfl : v = .slice (some ⟨rb i, 0, none⟩) (sz i) (cp i) := Rs_inv hv (by rw [← hat .nil]; exact HT.out.at_ i (by omega) (by simpa using hi) _)
      have hnx : ∀ ty, (Instr.next (.pointer (some ⟨r, 0, none⟩)) false ty).run Yba.prog wr = _ := fun _ => hrun
      have HR6 : Hid (w6.ranges Yba.prog 9 Rs gb r gn Dg (fun z => left z && !z.sameKey (lit i)) cnt') := hrg2
      have HF6 : Hid (Fr w.heap.size cb r wr w6) := ⟨hgr.os, hgr.tape, hgr.output, hgr.size, fun k hk _ _ h3 => hgr.block k hk (by simpa using h3)⟩
      have HF56 : Hid (Fr w.heap.size cb r w5 w6) := HL.out.fr.trans HF6.out
      have HOM6 : Hid (w6.ownsMap Yba.prog 9 Rp w.heap.size nn Dm) := ownsMap_block HL.out.om (hgr.block _ HL.out.om.lt (by simp; omega))
      have HOC6 : Hid (w6.ownsMap Yba.prog 9 Rb cb cn Dc) := ownsMap_block HL.out.oc (hgr.block _ HL.out.oc.lt (by simp; omega))
      obtain ⟨nb, hav, hnv, hnb1, hnb2, hnb3⟩ := HNM5.out (by omega)
      have HNB : Hid (∀ j, j < N → w5.cell? ⟨nb, j, none⟩ = some (.string (key j))) := hnb3
      have HF2' : Hid (w5.cell? ⟨O, 2, none⟩ = some (.slice (some ⟨nb, 0, none⟩) N cv)) := by have := HF2.out; rw [hav, hnv] at this; exact this
      have hnl := HL.out.nn
      have hcl2 := HL.out.cn
      have hs1 := HSZ.out i hi
      have hrbl := (HRB5.out i hi).1
      have HRI : Hid (∀ j, j < sz i → w5.cell? ⟨rb i, j, none⟩ = some (.string (mem j))) := (HRB5.out i hi).2
      have h56 := HF56.out.size
      have HNG := newGroupC (key i) (sz i) (rb i) (cp i) w6 hs1.1 hs1.2 (by omega) (fun j hj => (HF56.out.cell (p := ⟨rb i, j, none⟩) (by show rb i < _; omega) (by show rb i ≠ _; omega) (by show rb i ≠ _; omega) (by show rb i ≠ _; omega)).trans (HRI.out j hj))
      clear hrun hv hat hrg2 hgr hkey hnb3 hav hnv
      go_upto_region 6 with (first
        | (go_at_call 24; refine HNG.mono ?_; rintro e w7 ⟨s, rfl, hsn, hslo, hshi, hg7, hnm7, hms7, hng7, hb7⟩; have HF57 : Hid (Fr w.heap.size cb r w5 w7) := HF56.out.trans (Fr.ofBelow hb7 (Nat.le_refl _)); have HF67 : Hid (Below w6.heap.size w6 w7) := hb7; have HADD := addGroupC O w.heap.size nn nb N cv i Dm s _ _ _ w7 hi hN (by unfold maxLen; omega) ((HF57.out.cell (p := ⟨O, 1, none⟩) hO5 (by show O ≠ _; omega) (by show O ≠ _; omega) (by show O ≠ _; omega)).trans HF1.out) ((HF57.out.cell (p := ⟨O, 2, none⟩) hO5 (by show O ≠ _; omega) (by show O ≠ _; omega) (by show O ≠ _; omega)).trans HF2'.out) (fun j hj => (HF57.out.cell (p := ⟨nb, j, none⟩) (by show nb < _; omega) (by show nb ≠ _; omega) (by show nb ≠ _; omega) (by show nb ≠ _; omega)).trans (HNB.out j hj)) (ownsMap_block HOM6.out (hb7.block _ HOM6.out.lt)) hg7 hng7 hnm7 (fun j hj => hms7 j (by omega)) (by omega) (by omega) (by omega) (by omega) (by omega) (by omega); clear hg7 hnm7 hms7 hng7 hb7 HNG)
        | (go_at_call 23; refine HADD.mono ?_; rintro e w8 ⟨rfl, hg8, hom8, hos8, htp8, hou8, hsz8, hbl8⟩; have HG8 : Hid (Grp w8 s _ _ _) := hg8; have HOM8 : Hid (w8.ownsMap Yba.prog 9 Rp _ _ _) := hom8; have HBL8 : Hid (∀ k, k < w7.heap.size → k ≠ s.G → k ≠ w.heap.size → w8.heap[k]? = w7.heap[k]?) := hbl8; have HO8 : Hid (w8.os = w7.os ∧ w8.tape = w7.tape ∧ w8.output = w7.output) := ⟨hos8, htp8, hou8⟩; clear hg8 hom8 hbl8 hos8 htp8 hou8 HADD))
      have hGlo := HG8.out.bG
      have h67 := HF67.out.size
      have hb68 : ∀ k, k < w6.heap.size → k ≠ w.heap.size → w8.heap[k]? = w6.heap[k]? := fun k hk h1 => (HBL8.out k (by omega) (by omega) h1).trans (HF67.out.block k hk)
      have HF68 : Hid (Fr w.heap.size cb r w6 w8) := ⟨HO8.out.1.trans HF67.out.os, HO8.out.2.1.trans HF67.out.tape, HO8.out.2.2.trans HF67.out.output, by omega, fun k hk h1 _ _ => hb68 k hk h1⟩
      have HOC8 : Hid (w8.ownsMap Yba.prog 9 Rb cb cn Dc) := ownsMap_block HOC6.out (hb68 cb (by omega) (by omega))
      have HR8 : Hid (w8.ranges Yba.prog 9 Rs gb r gn Dg (fun z => left z && !z.sameKey (lit i)) cnt') := ranges_block HR6.out (hb68 gb (by omega) (by omega)) (hb68 r (by omega) (by omega))
      have HF58 : Hid (Fr w.heap.size cb r w5 w8) := HF56.out.trans HF68.out
      have h58 := HF58.out.size
      clear hb68 HBL8 HO8 HR6 HOM6 HOC6 HF56 HF57 hen hnx
      go_wp2_with fail
      go_loopg [42] (sz i) (fun g v wz => ∃ (j cn' : Nat) (Dc' : DataW Nat), g = sz i - j ∧ j ≤ sz i ∧ v = .int .i64 j ∧ wz.ownsMap Yba.prog 9 Rb cb cn' Dc' ∧ cn' ≤ cn + j ∧ Away cb (cb + 1) w8 wz)
      case atStart => exact ⟨0, cn, Dc, rfl, Nat.zero_le _, rfl, HOC8.out, by omega, Away.refl _ _ _⟩
      case round =>
        obtain ⟨j, cn', Dc', rfl, hj, rfl, hoc, hcn', haw⟩ := hrel
        have HOC : Hid (wr.ownsMap Yba.prog 9 Rb cb cn' Dc') := hoc
        have HAW : Hid (Away cb (cb + 1) w8 wr) := haw
        clear hoc haw
        by_cases hjl : j < sz i
        · have c1 : wr.cell? ⟨rb i, j, none⟩ = some (.string (mem j)) := ((HAW.out.cell (p := ⟨rb i, j, none⟩) (by show rb i < _; omega) (.inl (by show rb i < _; omega))).trans (HF58.out.cell (p := ⟨rb i, j, none⟩) (by show rb i < _; omega) (by show rb i ≠ _; omega) (by show rb i ≠ _; omega) (by show rb i ≠ _; omega))).trans (HRI.out j hjl)
          have c2 : wr.cell? ⟨O, 16, none⟩ = some (.map (some cb)) := ((HAW.out.cell (p := ⟨O, 16, none⟩) (by show O < _; omega) (.inr (by show cb + 1 ≤ O; omega))).trans (HF58.out.cell (p := ⟨O, 16, none⟩) hO5 (by show O ≠ _; omega) (by show O ≠ _; omega) (by show O ≠ _; omega))).trans HF16.out
          have hi0 : (0 : Int) ≤ (j : Int) := by omega
          have hi1 : (j : Int) < (sz i : Int) := by omega
          go_wp2_with (refine wpList_mapUpdate_own _ rfl (.tmp 49) (.tmp 50) (.const (.bool true)) 29 rfl 9 4 K9 Yba.underlying29 Rb cb cn' Dc' rfl HOC.out (by unfold maxLen; omega) _ _ _ rfl rfl (keyOf_mem j) .nil [] rfl ?_; intro w9 hoc9 hgr9; have HOC9 : Hid (w9.ownsMap Yba.prog 9 Rb cb _ _) := hoc9; have HAW9 : Hid (Away cb (cb + 1) w8 w9) := HAW.out.trans ⟨hgr9.os, hgr9.tape, hgr9.output, hgr9.size, fun k hk h2 => hgr9.block k hk (by simp; omega)⟩; clear hoc9 hgr9 c1 c2)
          go_roundg (sz i - (j + 1))
          case measure => omega
          case rel => exact ⟨j + 1, _, _, rfl, by omega, by go_num, HOC9.out, by omega, HAW9.out⟩
        · obtain hje : j = sz i := by omega
          have hwz := HAW.out.size
          have hF : Fr w.heap.size cb r w8 wr := ⟨HAW.out.os, HAW.out.tape, HAW.out.output, HAW.out.size, fun k hk _ h2 _ => HAW.out.block k hk (by omega)⟩
          have HNX : Hid _ := HL.out.next hN i hi (w' := wr) (s := s) hlt (ranges_block HR8.out (HAW.out.block gb (by omega) (.inl (by omega))) (HAW.out.block r (by omega) (.inr (by omega)))) (ownsMap_block HOM8.out (HAW.out.block _ (by omega) (.inl (by omega)))) HOC.out (by omega) (HG8.out.keep (fun k h1 h2 => HAW.out.block k (by omega) (.inr (by omega)))) (by omega) (by omega) ((HF6.out.trans HF68.out).trans hF) (by omega) (by omega) (by omega)
          clear hF
          go_wp2
          go_roundg cnt'
          case measure => omega
          case rel => exact ⟨_, _, _, _, _, _, HNX.out⟩
end Go.Proofs.Ybulkamje
