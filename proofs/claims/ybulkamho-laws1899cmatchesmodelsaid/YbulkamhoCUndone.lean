import Derived.Test.YbulkamhoCRes
namespace Go.Proofs.Ybulkamho
open Go.RowKit
attribute [local go_sem ↓] Go.wp_at_zero Go.wp_at_succ
set_option linter.unusedSimpArgs false

/-- What the removals of one change add to U. -/
def undIn (Sn : List Int) (R : List Int) (U : List Int) : List Int := R.foldl (fun U m => if m ∈ Sn then U else ins U m) U
/-- The changes newest first. -/
def undR (sender me : Int) : List CC → List Int → List Int → List Int
  | [], U, _ => U
  | s :: rest, U, Sn => if s.1 = sender then (if me ∈ s.2.2.2 then undR sender me rest U Sn else undR sender me rest (undIn Sn s.2.2.2 U) Sn)
    else if sender ∈ s.2.2.2 then U else undR sender me rest U (ins Sn s.1)
def undC (sender me : Int) (l : List CC) : List Int := undR sender me l.reverse [] []

theorem take_rev (l : List CC) (t : Nat) (s : CC) (h : l[t]? = some s) : (l.take (t + 1)).reverse = s :: (l.take t).reverse := by
  rw [List.take_add_one, h]; simp

/-- A write into a map. -/
theorem Keep28.map {w w' w1 : World} (h : Keep28 w w') {b : Nat} {U : List Int} (hm : HMap w' b U) (hg : w'.grownBy w1 (some b)) : Keep28 w w1 := fun k cs e => by
  have e1 := h k cs e
  obtain ⟨es, clock, hb, _⟩ := hm
  rw [hg.block k (Array.getElem?_eq_some_iff.1 e1).1 (fun hk => by cases hk; rw [hb] at e1; simp at e1)]
  exact e1

theorem undIn_take (Sn R U : List Int) (q : Nat) (h : q < R.length) : undIn Sn (R.take (q + 1)) U = (if R.getD q 0 ∈ Sn then undIn Sn (R.take q) U else ins (undIn Sn (R.take q) U) (R.getD q 0)) := by
  have e : R.take (q + 1) = R.take q ++ [R.getD q 0] := by
    rw [List.take_add_one, List.getD_eq_getElem?_getD, List.getElem?_eq_getElem h]; rfl
  rw [e, undIn, undIn, List.foldl_append]
  rfl

/-- Memory at the head of a round. -/
structure UndAt (w wr : World) (sender me : Int) (U Sn : List Int) : Prop where
  b1 : wr.heap[w.heap.size]? = some (.cells #[.int .u8 sender, .int .u8 0, .int .u8 0, .int .u8 0, .int .u8 0, .int .u8 0, .int .u8 0, .int .u8 0] 28 (0, 0))
  b2 : wr.heap[w.heap.size + 1]? = some (.cells #[.int .u8 me, .int .u8 0, .int .u8 0, .int .u8 0, .int .u8 0, .int .u8 0, .int .u8 0, .int .u8 0] 28 (0, 0))
  mu : HMap wr (w.heap.size + 1 + 1) U
  sn : HMap wr (w.heap.size + 1 + 1 + 1) Sn
  bel : Below w.heap.size w wr
theorem UndAt.big {w wr : World} {sender me : Int} {U Sn : List Int} (h : UndAt w wr sender me U Sn) : w.heap.size + 1 + 1 + 1 < wr.heap.size := h.sn.lt
theorem UndAt.later {w wr w1 : World} {sender me : Int} {U Sn : List Int} (h : UndAt w wr sender me U Sn) (hb : Below wr.heap.size wr w1) : UndAt w w1 sender me U Sn := by
  have hz := h.big
  exact ⟨(hb.block _ (by omega)).trans h.b1, (hb.block _ (by omega)).trans h.b2, h.mu.keep (hb.block _ (by omega)), h.sn.keep (hb.block _ (by omega)), h.bel.trans (hb.mono h.bel.size)⟩
theorem UndAt.sent {w wr w1 : World} {sender me : Int} {U Sn Sn' : List Int} (h : UndAt w wr sender me U Sn) (hg : wr.grownBy w1 (some (w.heap.size + 1 + 1 + 1))) (hm : HMap w1 (w.heap.size + 1 + 1 + 1) Sn') : UndAt w w1 sender me U Sn' := by
  have hz := h.big
  have e : ∀ k, k < wr.heap.size → k ≠ w.heap.size + 1 + 1 + 1 → w1.heap[k]? = wr.heap[k]? := fun k hk hn => hg.block k hk (by simpa using hn)
  exact ⟨(e _ (by omega) (by omega)).trans h.b1, (e _ (by omega) (by omega)).trans h.b2, h.mu.keep (e _ (by omega) (by omega)), hm, Below.grown h.bel hg h.bel.size (fun k hk => by cases hk; omega)⟩
theorem UndAt.und {w wr w1 : World} {sender me : Int} {U U' Sn : List Int} (h : UndAt w wr sender me U Sn) (hg : wr.grownBy w1 (some (w.heap.size + 1 + 1))) (hm : HMap w1 (w.heap.size + 1 + 1) U') : UndAt w w1 sender me U' Sn := by
  have hz := h.big
  have e : ∀ k, k < wr.heap.size → k ≠ w.heap.size + 1 + 1 → w1.heap[k]? = wr.heap[k]? := fun k hk hn => hg.block k hk (by simpa using hn)
  exact ⟨(e _ (by omega) (by omega)).trans h.b1, (e _ (by omega) (by omega)).trans h.b2, hm, h.sn.keep (e _ (by omega) (by omega)), Below.grown h.bel hg h.bel.size (fun k hk => by cases hk; omega)⟩
theorem UndAt.start (w : World) (sender me : Int) :
    UndAt w ((((w.alloc (.cells #[.int .u8 sender, .int .u8 0, .int .u8 0, .int .u8 0, .int .u8 0, .int .u8 0, .int .u8 0, .int .u8 0] 28)).alloc (.cells #[.int .u8 me, .int .u8 0, .int .u8 0, .int .u8 0, .int .u8 0, .int .u8 0, .int .u8 0, .int .u8 0] 28)).alloc (.map #[] 0)).alloc (.map #[] 0)) sender me [] [] := by
  have s1 : ∀ (w : World) (o1 : Obj), (w.alloc o1).heap.size = w.heap.size + 1 := fun w o => by simp
  have s2 : ∀ (w : World) (o1 o2 : Obj), ((w.alloc o1).alloc o2).heap.size = w.heap.size + 2 := fun w o1 o2 => by simp
  have s3 : ∀ (w : World) (o1 o2 o3 : Obj), (((w.alloc o1).alloc o2).alloc o3).heap.size = w.heap.size + 3 := fun w o1 o2 o3 => by simp
  refine ⟨?_, ?_, ?_, ?_, ?_⟩
  · rw [Below.heap_alloc _ _ _ (by rw [s3]; omega), Below.heap_alloc _ _ _ (by rw [s2]; omega), Below.heap_alloc _ _ _ (by rw [s1]; omega)]; exact heap_alloc_new _ _
  · rw [Below.heap_alloc _ _ _ (by rw [s3]; omega), Below.heap_alloc _ _ _ (by rw [s2]; omega), ← s1 w _]; exact heap_alloc_new _ _
  · have := HMap.new ((w.alloc (.cells #[.int .u8 sender, .int .u8 0, .int .u8 0, .int .u8 0, .int .u8 0, .int .u8 0, .int .u8 0, .int .u8 0] 28)).alloc (.cells #[.int .u8 me, .int .u8 0, .int .u8 0, .int .u8 0, .int .u8 0, .int .u8 0, .int .u8 0, .int .u8 0] 28))
    rw [s2] at this
    exact this.keep (Below.heap_alloc _ _ _ (by rw [s3]; omega))
  · have := HMap.new (((w.alloc (.cells #[.int .u8 sender, .int .u8 0, .int .u8 0, .int .u8 0, .int .u8 0, .int .u8 0, .int .u8 0, .int .u8 0] 28)).alloc (.cells #[.int .u8 me, .int .u8 0, .int .u8 0, .int .u8 0, .int .u8 0, .int .u8 0, .int .u8 0, .int .u8 0] 28)).alloc (.map #[] 0))
    rw [s3] at this
    exact this
  · exact ((((Below.refl _ _).alloc (Nat.le_refl _) _).alloc (by rw [s1]; omega) _).alloc (by rw [s2]; omega) _).alloc (by rw [s3]; omega) _

theorem UndAt.box1 {w wr : World} {sender me : Int} {U Sn : List Int} (h : UndAt w wr sender me U Sn) : H8 wr w.heap.size 0 sender := by
  have e := fun j => cell_of_row wr w.heap.size j _ 28 (0, 0) h.b1
  exact ⟨e 0, e 1, e 2, e 3, e 4, e 5, e 6, e 7⟩
theorem UndAt.box2 {w wr : World} {sender me : Int} {U Sn : List Int} (h : UndAt w wr sender me U Sn) : H8 wr (w.heap.size + 1) 0 me := by
  have e := fun j => cell_of_row wr (w.heap.size + 1) j _ 28 (0, 0) h.b2
  exact ⟨e 0, e 1, e 2, e 3, e 4, e 5, e 6, e 7⟩

set_option maxRecDepth 100000 in
set_option maxHeartbeats 1600000 in
theorem undoneSome (R g n cap : Nat) (sender me : Int) (ms : List MC) (l : List CC) (w : World) (hn : n = l.length) (hn' : n ≤ 256) (hR : R < w.heap.size) (hg : g < w.heap.size)
    (cR : w.cell? ⟨R, 3, none⟩ = some (.slice (some ⟨g, 0, none⟩) n cap)) (hrow : ∀ t m, ms[t]? = some m → w.rangeAt g (t * 29) m.cells) (hsays : ∀ (i : Nat) (m : MC) (s : CC), ms[i]? = some m → l[i]? = some s → Says w m s) (hml : ms.length = l.length) :
    Calls Yba.prog 21 #[.pointer (some ⟨R, 0, none⟩), hv sender, hv me] w fun e w' => e = .returned (.map (some (w.heap.size + 1 + 1))) ∧ HMap w' (w.heap.size + 1 + 1) (undC sender me l) ∧ Below w.heap.size w w' := by
  have heq := fun w a b => equal28 9998 a b w
  have hgd := eqGuard28
  have hmm := @run_makeMap Yba.prog
  have cR4 : ∀ o1 o2 o3 o4, ((((w.alloc o1).alloc o2).alloc o3).alloc o4).cell? ⟨R, 3, none⟩ = some (.slice (some ⟨g, 0, none⟩) n cap) := fun o1 o2 o3 o4 => cell_alloc4 cR o1 o2 o3 o4
  have HN : Hid (n = l.length) := hn
  clear hn
  go_enter Yba.func21, Yba.ntmps21
  go_wp2_with fail
  go_loopw [9] (fun i wr => ∃ (j : Nat) (v : Int) (U Sn : List Int), j ≤ n ∧ i = .int .i64 v ∧ v = (j : Int) - 1 ∧ undR sender me (l.take j).reverse U Sn = undC sender me l ∧ UndAt w wr sender me U Sn) (fun i _ => (intOf i + 1).toNat)
  case atStart => exact ⟨n, _, [], [], Nat.le_refl _, rfl, rfl, by rw [HN.out, List.take_length]; rfl, UndAt.start w sender me⟩
  case round =>
    obtain ⟨j, v, U, Sn, hj, rfl, hvj, hinv, hu⟩ := hrel
    have HI : Hid (undR sender me (l.take j).reverse U Sn = undC sender me l) := hinv
    clear hinv cR4
    have hbel := hu.bel
    have cR' := (hbel.cell (p := ⟨R, 3, none⟩) hR).trans cR
    by_cases hlt : 0 < j
    · obtain ⟨t, rfl⟩ : ∃ t, j = t + 1 := ⟨j - 1, by omega⟩
      obtain rfl : v = (t : Int) := by omega
      have htl : t < l.length := by rw [← HN.out]; omega
      obtain ⟨s, hs⟩ : ∃ s, l[t]? = some s := ⟨_, List.getElem?_eq_getElem htl⟩
      obtain ⟨m, hm⟩ : ∃ m, ms[t]? = some m := ⟨_, List.getElem?_eq_getElem (by omega)⟩
      have hsy := (hsays t m s hm hs).keep (Keep28.below hbel)
      obtain ⟨x, k, va, vr⟩ := m
      obtain ⟨sx, sk, A, Rm⟩ := s
      obtain ⟨aR, cRm, er, hHR⟩ := hsy.rem
      have hx : x = sx := hsy.x
      subst hx
      simp only at er
      subst er
      have hr29 := hrow t _ hm
      have h8' : H8 wr g (t * 29) x := (H8.mk (hr29 0 _ rfl) (hr29 1 _ rfl) (hr29 2 _ rfl) (hr29 3 _ rfl) (hr29 4 _ rfl) (hr29 5 _ rfl) (hr29 6 _ rfl) (hr29 7 _ rfl)).later hbel hg
      have hrm : wr.cell? ⟨g, t * 29 + 8 + 19, none⟩ = some (.slice aR Rm.length cRm) := (hbel.cell (p := ⟨g, t * 29 + 8 + 19, none⟩) hg).trans (hr29 27 _ rfl)
      have hsmall : Rm.length ≤ 256 := hsy.sr
      have HS : Hid ((l.take (t + 1)).reverse = (x, sk, A, Rm) :: (l.take t).reverse) := take_rev l t _ hs
      have hi0 : (0 : Int) ≤ (t : Int) := by omega
      have hi1 : (t : Int) < (n : Int) := by omega
      have hz := hu.big
      have hgr : g < wr.heap.size := by have := hbel.size; omega
      have hzb : w.heap.size < wr.heap.size := by omega
      have hzc : w.heap.size + 1 < wr.heap.size := by omega
      have HU : Hid (UndAt w wr sender me U Sn) := hu
      have HHR : Hid (HL wr 0 aR cRm Rm) := hHR
      obtain ⟨nR, hnR⟩ : ∃ nR, nR = Rm.length := ⟨_, rfl⟩
      have HNR : Hid (nR = Rm.length) := hnR
      rw [← hnR] at hrm hsmall
      clear hnR hs hm hsy hHR hr29 hu hrow hsays cR hvj
      obtain ⟨a0, a1, a2, a3, a4, a5, a6, a7⟩ := h8'
      by_cases hxs : x = sender
      · obtain rfl : x = sender := hxs
        obtain ⟨b0, b1, b2, b3, b4, b5, b6, b7⟩ := HU.out.box1
        obtain ⟨d0, d1, d2, d3, d4, d5, d6, d7⟩ := HU.out.box2
        by_cases hin : me ∈ Rm
        · have hd : decide (me ∈ Rm) = true := by simpa using hin
          have HR : Hid (undR x me (l.take t).reverse U Sn = undC x me l) := by
            have := HI.out
            rw [HS.out] at this
            simp only [undR, if_pos, if_pos hin] at this
            exact this
          clear hin
          go_wp2_with fail
          go_quiet (fail)
          go_wp2_with fail
          go_region_held3 (fun w' => ∀ b o, b < wr.heap.size → w'.cell? ⟨b, o, none⟩ = wr.cell? ⟨b, o, none⟩)
            (first | exact fun b o h => hbc.cell (p := ⟨b, o, none⟩) h | exact fun b o h => rfl)
            (first | (go_at_call 23; refine (containsC aR cRm 0 nR Rm me _ (by rw [← HNR.out]; exact hsmall) HNR.out (by exact HHR.out.keep (Keep28.below ⟨rfl, rfl, rfl, Nat.le_refl _, fun _ _ => rfl⟩))).mono ?_; rintro e w1 ⟨rfl, hbc⟩))
          have hb1 : Below wr.heap.size wr w1 := ⟨hbc.os, hbc.tape, hbc.output, hbc.size, hbc.block⟩
          have HU1 : Hid (UndAt w w1 x me U Sn) := HU.out.later hb1
          clear a0 a1 a2 a3 a4 a5 a6 a7 b0 b1 b2 b3 b4 b5 b6 b7 d0 d1 d2 d3 d4 d5 d6 d7 hrm cR'
          go_wp2
          go_roundw
          case rel => exact ⟨t, _, U, Sn, by omega, rfl, rfl, HR.out, HU1.out⟩
          case measure => simp [intOf] <;> omega
        · have hd : decide (me ∈ Rm) = false := by simpa using hin
          have HR : Hid (undR x me (l.take t).reverse (undIn Sn Rm U) Sn = undC x me l) := by
            have := HI.out
            rw [HS.out] at this
            simp only [undR, if_pos, if_neg hin] at this
            exact this
          clear hin
          go_wp2_with fail
          go_quiet (fail)
          go_wp2_with fail
          go_region_held3 (fun w' => ∀ b o, b < wr.heap.size → w'.cell? ⟨b, o, none⟩ = wr.cell? ⟨b, o, none⟩)
            (first | exact fun b o h => hbc.cell (p := ⟨b, o, none⟩) h | exact fun b o h => rfl)
            (first | (go_at_call 23; refine (containsC aR cRm 0 nR Rm me _ (by rw [← HNR.out]; exact hsmall) HNR.out (by exact HHR.out.keep (Keep28.below ⟨rfl, rfl, rfl, Nat.le_refl _, fun _ _ => rfl⟩))).mono ?_; rintro e w1 ⟨rfl, hbc⟩))
          have hb1 : Below wr.heap.size wr w1 := ⟨hbc.os, hbc.tape, hbc.output, hbc.size, hbc.block⟩
          have HU1 : Hid (UndAt w w1 x me U Sn) := HU.out.later hb1
          have HH1 : Hid (HL w1 0 aR cRm Rm) := HHR.out.keep (Keep28.below hb1)
          clear a0 a1 a2 a3 a4 a5 a6 a7 b0 b1 b2 b3 b4 b5 b6 b7 d0 d1 d2 d3 d4 d5 d6 d7 cR' hbc
          go_wp2_with fail
          go_loopw [62] (fun i wy => ∃ q : Nat, q ≤ nR ∧ i = .int .i64 q ∧ UndAt w wy x me (undIn Sn (Rm.take q) U) Sn ∧ Keep28 w1 wy) (fun i _ => nR - (intOf i).toNat)
          case atStart => exact ⟨0, Nat.zero_le _, rfl, HU1.out, Keep28.refl _⟩
          case round =>
            obtain ⟨q, hq, rfl, huq, hkq⟩ := hrel
            have HUQ : Hid (UndAt w wr x me (undIn Sn (Rm.take q) U) Sn) := huq
            have HKQ : Hid (Keep28 w1 wr) := hkq
            clear huq hkq
            by_cases hql : q < nR
            · have hqR : q < Rm.length := by rw [← HNR.out]; exact hql
              have HT : Hid (undIn Sn (Rm.take (q + 1)) U = (if Rm.getD q 0 ∈ Sn then undIn Sn (Rm.take q) U else ins (undIn Sn (Rm.take q) U) (Rm.getD q 0))) := undIn_take Sn Rm U q hqR
              obtain ⟨gr, hgr', _, hgrl, hc8⟩ := (HH1.out.keep HKQ.out).eight (by omega)
              subst hgr'
              obtain ⟨f0, f1, f2, f3, f4, f5, f6, f7⟩ := hc8 q hqR
              obtain ⟨y, hy⟩ : ∃ y, y = Rm.getD q 0 := ⟨_, rfl⟩
              rw [← hy] at f0
              have HY : Hid (y = Rm.getD q 0) := hy
              have hUz := HUQ.out.big
              clear hc8 hy
              by_cases hys : y ∈ Sn
              · have HD : Hid (undIn Sn (Rm.take (q + 1)) U = undIn Sn (Rm.take q) U) := by simp only [Hid]; rw [HT.out, ← HY.out, if_pos hys]
                have hdd : decide (y ∈ Sn) = true := by simpa using hys
                clear hys
                go_wp2_with (refine wpList_lookup66 rfl (.tmp 66) (.tmp 67) rfl (w.heap.size + 1 + 1 + 1) Sn y rfl rfl (HUQ.out.later ((Below.refl _ _).alloc (Nat.le_refl _) _)).sn ?_)
                go_roundw
                case rel => exact ⟨q + 1, by omega, by go_num, by rw [HD.out]; exact HUQ.out.later ((Below.refl _ _).alloc (Nat.le_refl _) _), HKQ.out.alloc _⟩
                case measure => simp [intOf] <;> omega
              · have HD : Hid (undIn Sn (Rm.take (q + 1)) U = ins (undIn Sn (Rm.take q) U) y) := by simp only [Hid]; rw [HT.out, ← HY.out, if_neg hys]
                have hdd : decide (y ∈ Sn) = false := by simpa using hys
                clear hys
                go_wp2_with (first
                  | (refine wpList_lookup66 rfl (.tmp 66) (.tmp 67) rfl (w.heap.size + 1 + 1 + 1) Sn y rfl rfl (HUQ.out.later ((Below.refl _ _).alloc (Nat.le_refl _) _)).sn ?_)
                  | (refine wpList_update66 rfl (.tmp 70) (.tmp 71) rfl (w.heap.size + 1 + 1) (undIn Sn (Rm.take q) U) y rfl rfl (HUQ.out.later ((Below.refl _ _).alloc (Nat.le_refl _) _)).mu ?_; intro w2 hm2 hg2 hz2))
                have HU2 : Hid (UndAt w w2 x me (undIn Sn (Rm.take (q + 1)) U) Sn) := by
                  simp only [Hid]; rw [HD.out]; exact (HUQ.out.later ((Below.refl _ _).alloc (Nat.le_refl _) _)).und hg2 hm2
                have HK2 : Hid (Keep28 w1 w2) := (HKQ.out.alloc _).map (HUQ.out.later ((Below.refl _ _).alloc (Nat.le_refl _) _)).mu hg2
                clear hm2 hg2 f0 f1 f2 f3 f4 f5 f6 f7
                go_wp2
                go_roundw
                case rel => exact ⟨q + 1, by omega, by go_num, HU2.out, HK2.out⟩
                case measure => simp [intOf] <;> omega
            · obtain rfl : q = nR := by omega
              have HE : Hid (UndAt w wr x me (undIn Sn Rm U) Sn) := by have := HUQ.out; rw [HNR.out, List.take_length] at this; exact this
              go_wp2
              go_roundw
              case rel => exact ⟨t, _, undIn Sn Rm U, Sn, by omega, rfl, rfl, HR.out, HE.out⟩
              case measure => simp [intOf] <;> omega
      · have hbq : (x == sender) = false := by simpa using hxs
        obtain ⟨b0, b1, b2, b3, b4, b5, b6, b7⟩ := HU.out.box1
        by_cases hin : sender ∈ Rm
        · have hd : decide (sender ∈ Rm) = true := by simpa using hin
          have HR : Hid (U = undC sender me l) := by
            have := HI.out
            rw [HS.out] at this
            simp only [undR, if_neg hxs, if_pos hin] at this
            exact this
          clear hxs hin
          go_wp2_with fail
          go_quiet (fail)
          go_wp2_with fail
          go_region_held3 (fun w' => ∀ b o, b < wr.heap.size → w'.cell? ⟨b, o, none⟩ = wr.cell? ⟨b, o, none⟩)
            (first | exact fun b o h => hbc.cell (p := ⟨b, o, none⟩) h | exact fun b o h => rfl)
            (first | (go_at_call 23; refine (containsC aR cRm 0 nR Rm sender _ (by rw [← HNR.out]; exact hsmall) HNR.out (by exact HHR.out.keep (Keep28.below ⟨rfl, rfl, rfl, Nat.le_refl _, fun _ _ => rfl⟩))).mono ?_; rintro e w1 ⟨rfl, hbc⟩))
          have hb1 : Below wr.heap.size wr w1 := ⟨hbc.os, hbc.tape, hbc.output, hbc.size, hbc.block⟩
          have HU1 : Hid (UndAt w w1 sender me U Sn) := HU.out.later hb1
          go_wp2
          go_ret
          exact ⟨rfl, by rw [← HR.out]; exact HU1.out.mu, HU1.out.bel⟩
        · have hd : decide (sender ∈ Rm) = false := by simpa using hin
          have HR : Hid (undR sender me (l.take t).reverse U (ins Sn x) = undC sender me l) := by
            have := HI.out
            rw [HS.out] at this
            simp only [undR, if_neg hxs, if_neg hin] at this
            exact this
          clear hxs hin
          go_wp2_with fail
          go_quiet (fail)
          go_wp2_with fail
          go_region_held3 (fun w' => ∀ b o, b < wr.heap.size → w'.cell? ⟨b, o, none⟩ = wr.cell? ⟨b, o, none⟩)
            (first | exact fun b o h => hbc.cell (p := ⟨b, o, none⟩) h | exact fun b o h => rfl)
            (first | (go_at_call 23; refine (containsC aR cRm 0 nR Rm sender _ (by rw [← HNR.out]; exact hsmall) HNR.out (by exact HHR.out.keep (Keep28.below ⟨rfl, rfl, rfl, Nat.le_refl _, fun _ _ => rfl⟩))).mono ?_; rintro e w1 ⟨rfl, hbc⟩))
          have hb1 : Below wr.heap.size wr w1 := ⟨hbc.os, hbc.tape, hbc.output, hbc.size, hbc.block⟩
          have HU1 : Hid (UndAt w w1 sender me U Sn) := HU.out.later hb1
          clear b0 b1 b2 b3 b4 b5 b6 b7 hrm cR'
          go_wp2_with (refine wpList_update66 rfl (.tmp 44) (.tmp 48) rfl (w.heap.size + 1 + 1 + 1) Sn x rfl rfl HU1.out.sn ?_; intro w2 hm2 hg2 hz2)
          have HU2 : Hid (UndAt w w2 sender me U (ins Sn x)) := HU1.out.sent hg2 hm2
          clear hm2 hg2
          go_wp2
          go_roundw
          case rel => exact ⟨t, _, U, ins Sn x, by omega, rfl, rfl, HR.out, HU2.out⟩
          case measure => simp [intOf] <;> omega
    · obtain rfl : j = 0 := by omega
      obtain rfl : v = -1 := by omega
      clear hvj
      have HR : Hid (U = undC sender me l) := by have := HI.out; simpa [undR, Hid] using this
      have HU : Hid (UndAt w wr sender me U Sn) := hu
      clear hu
      go_wp2
      go_ret
      exact ⟨rfl, by rw [← HR.out]; exact HU.out.mu, HU.out.bel⟩
end Go.Proofs.Ybulkamho
