import Derived.Test.YbulkamhoCList
namespace Go.Proofs.Ybulkamho
open Go.RowKit
set_option linter.unusedSimpArgs false

/-- The eight cells of a handle. -/
structure H8 (w : World) (g o : Nat) (y : Int) : Prop where
  c0 : w.cell? ⟨g, o, none⟩ = some (.int .u8 y)
  c1 : w.cell? ⟨g, o + 1, none⟩ = some (.int .u8 0)
  c2 : w.cell? ⟨g, o + 2, none⟩ = some (.int .u8 0)
  c3 : w.cell? ⟨g, o + 3, none⟩ = some (.int .u8 0)
  c4 : w.cell? ⟨g, o + 4, none⟩ = some (.int .u8 0)
  c5 : w.cell? ⟨g, o + 5, none⟩ = some (.int .u8 0)
  c6 : w.cell? ⟨g, o + 6, none⟩ = some (.int .u8 0)
  c7 : w.cell? ⟨g, o + 7, none⟩ = some (.int .u8 0)

theorem H8.later {w w' : World} {g o : Nat} {y : Int} {B : Nat} (h : H8 w g o y) (hb : Below B w w') (hg : g < B) : H8 w' g o y := by
  have e : ∀ j, w'.cell? ⟨g, j, none⟩ = w.cell? ⟨g, j, none⟩ := fun j => hb.cell (p := ⟨g, j, none⟩) hg
  exact ⟨(e _).trans h.c0, (e _).trans h.c1, (e _).trans h.c2, (e _).trans h.c3, (e _).trans h.c4, (e _).trans h.c5, (e _).trans h.c6, (e _).trans h.c7⟩

theorem HL.eight {w : World} {base : Nat} {ao : Option Addr} {c : Nat} {l : List Int} (h : HL w base ao c l) (hl : 0 < l.length) :
    ∃ g, ao = some ⟨g, 0, none⟩ ∧ base ≤ g ∧ g < w.heap.size ∧ ∀ t, t < l.length → H8 w g (t * 8) (l.getD t 0) := by
  rcases h.2 with ⟨_, h0⟩ | ⟨g, cap, cur, hv, hb, hg, hnc, _, hcs, htk⟩
  · omega
  · simp at hv
    obtain ⟨rfl, rfl⟩ := hv
    refine ⟨g, rfl, hb, (Array.getElem?_eq_some_iff.1 hg).1, fun t ht => ?_⟩
    have e : ∀ j, j < 8 → w.cell? ⟨g, t * 8 + j, none⟩ = (h8 (l.getD t 0))[j]? := fun j hj => by
      rw [World.ownsRow.cellAt h (t * 8 + j) (by omega), cells8_at l t j ht hj]
    exact ⟨e 0 (by omega), e 1 (by omega), e 2 (by omega), e 3 (by omega), e 4 (by omega), e 5 (by omega), e 6 (by omega), e 7 (by omega)⟩

/-! ### zzs1899cin -/
def inB (X : Nat → Int) (n : Nat) (v : Int) : Bool := (m4 X n).contains (v % 4)
theorem inB_succ (X : Nat → Int) (n : Nat) (v : Int) : inB X (n + 1) v = (inB X n v || (v % 4 == X n % 4)) := by
  rw [Bool.eq_iff_iff]; simp [inB, m4_succ]

set_option maxRecDepth 100000 in
set_option maxHeartbeats 400000 in
theorem cinLoop (a : Option Addr) (len cap : Nat) (X : Nat → Int) (v : Int) (w : World) (hlen : len ≤ 256) (hr : BY w.heap.size w a len X) (hv0 : 0 ≤ v) (hv1 : v ≤ 255) :
    Calls Yba.prog 18 #[.slice a len cap, .int .u8 v] w fun e w' => e = .returned (.bool (inB X len v)) ∧ w' = w := by
  go_enter Yba.func18, Yba.ntmps18
  go_wp2_with fail
  go_loop [9] (fun i => ∃ k : Nat, k ≤ len ∧ i = .int .i64 k ∧ inB X k v = false) (fun i => len - (intOf i).toNat)
  case atStart => exact ⟨0, Nat.zero_le _, rfl, rfl⟩
  case round =>
    obtain ⟨k, hk, rfl, hin⟩ := hrel
    have HIN : Hid (inB X k v = false) := hin
    clear hin
    by_cases hlt : k < len
    · obtain ⟨b, off, rfl, hbB, hc⟩ := hr (by omega)
      obtain ⟨cX, x0, x1⟩ := hc k hlt
      clear hc
      by_cases hxv : X k % 4 = v % 4
      · have hb : ((X k % 4) == (v % 4)) = true := by simpa using hxv
        have HT : Hid (inB X len v = true) := by
          simp only [Hid, inB, List.contains_iff_mem]
          exact List.mem_map.2 ⟨k, by simpa using hlt, hxv⟩
        clear hxv
        go_wp2
        go_ret
        exact ⟨by rw [HT.out]; rfl, rfl⟩
      · have hb : ((X k % 4) == (v % 4)) = false := by simpa using hxv
        have HN : Hid (inB X (k + 1) v = false) := by
          simp only [Hid]; rw [inB_succ, HIN.out]; simpa using fun e => hxv e.symm
        clear hxv
        go_wp2
        go_round
        case rel => exact ⟨k + 1, by omega, by go_num, HN.out⟩
        case measure => simp [intOf]; omega
    · obtain rfl : k = len := by omega
      go_wp2
      go_ret
      exact ⟨by rw [HIN.out]; rfl, rfl⟩

/-! ### zzs1899ceq: where the two are alike -/
set_option maxRecDepth 100000 in
set_option maxHeartbeats 800000 in
theorem ceqLoop (g : Nat) (len c cap b off : Nat) (X : Nat → Int) (w : World) (hlen : len ≤ 256) (hg : g < w.heap.size) (hb : b < w.heap.size)
    (hh : ∀ t, t < len → H8 w g (t * 8) (X t % 4)) (hx : ∀ i, i < len → w.cell? ⟨b, off + i, none⟩ = some (.int .u8 (X i)) ∧ 0 ≤ X i ∧ X i ≤ 255) :
    Calls Yba.prog 19 #[.slice (some ⟨g, 0, none⟩) len c, .slice (some ⟨b, off, none⟩) len cap] w fun e w' => e = .returned (.bool true) ∧ Below w.heap.size w w' := by
  have heq := fun w a b => equal28 9998 a b w
  have hgd := eqGuard28
  go_enter Yba.func19, Yba.ntmps19
  go_wp2_with fail
  go_loopw [5] (fun i wx => ∃ t : Nat, t ≤ len ∧ i = .int .i64 t ∧ Below w.heap.size w wx) (fun i _ => len - (intOf i).toNat)
  case atStart => exact ⟨0, Nat.zero_le _, rfl, Below.refl _ _⟩
  case round =>
    obtain ⟨t, ht, rfl, hbel⟩ := hrel
    by_cases hlt : t < len
    · obtain ⟨a0, a1, a2, a3, a4, a5, a6, a7⟩ := (hh t hlt).later hbel hg
      obtain ⟨cX, x0, x1⟩ := hx t hlt
      have cX' := (hbel.cell (p := ⟨b, off + t, none⟩) hb).trans cX
      have hi1 : (t : Int) < (len : Int) := by omega
      have hi0 : (0 : Int) ≤ (t : Int) := by omega
      have hz := hbel.size
      clear hh hx cX
      go_wp2_with fail
      go_region_held3 (fun w' => w'.cell? ⟨g, t * 8, none⟩ = some (.int .u8 (X t % 4)) ∧ w'.cell? ⟨g, t * 8 + 1, none⟩ = some (.int .u8 0) ∧ w'.cell? ⟨g, t * 8 + 2, none⟩ = some (.int .u8 0) ∧ w'.cell? ⟨g, t * 8 + 3, none⟩ = some (.int .u8 0) ∧
          w'.cell? ⟨g, t * 8 + 4, none⟩ = some (.int .u8 0) ∧ w'.cell? ⟨g, t * 8 + 5, none⟩ = some (.int .u8 0) ∧ w'.cell? ⟨g, t * 8 + 6, none⟩ = some (.int .u8 0) ∧ w'.cell? ⟨g, t * 8 + 7, none⟩ = some (.int .u8 0) ∧ w'.cell? ⟨b, off + t, none⟩ = some (.int .u8 (X t)))
        (go_keep)
        (first | (go_at_call 15; refine (handleC (X t) _ x0 x1).mono ?_; rintro e w' ⟨rfl, rfl⟩))
      go_wp2
      go_roundw
      case rel => exact ⟨t + 1, by omega, by go_num, (hbel.alloc hz _).drew⟩
      case measure => simp [intOf]; omega
    · go_wp2
      go_ret
      exact ⟨rfl, hbel⟩

set_option maxRecDepth 100000 in
set_option maxHeartbeats 400000 in
theorem ceqNone (ao bo : Option Addr) (c cap : Nat) (w : World) :
    Calls Yba.prog 19 #[.slice ao 0 c, .slice bo 0 cap] w fun e w' => e = .returned (.bool true) ∧ Below w.heap.size w w' := by
  go_enter Yba.func19, Yba.ntmps19
  go_wp2_with fail
  refine wp_loop_rounds 1 ?_
  rw [rounds_succ]
  go_wp2
  go_ret
  exact ⟨rfl, Below.refl _ _⟩

/-- The handles that were made of the bytes are equal to them. -/
theorem ceqC (ao : Option Addr) (c base : Nat) (bo : Option Addr) (len cap : Nat) (X : Nat → Int) (w : World) (hlen : len ≤ 256) (hh : HL w base ao c (m4 X len)) (hx : BY w.heap.size w bo len X) :
    Calls Yba.prog 19 #[.slice ao len c, .slice bo len cap] w fun e w' => e = .returned (.bool true) ∧ Below w.heap.size w w' := by
  by_cases hp : 0 < len
  · obtain ⟨g, rfl, _, hg, hc⟩ := hh.eight (by rw [m4_length]; exact hp)
    obtain ⟨b, off, rfl, hb, hcx⟩ := hx hp
    rw [m4_length] at hc
    exact ceqLoop g len c cap b off X w hlen hg hb (fun t ht => by have := hc t ht; rwa [m4_getD X len t ht] at this) hcx
  · obtain rfl : len = 0 := by omega
    exact ceqNone ao bo c cap w

/-! ### slices.Index, slices.Contains -/
set_option maxRecDepth 100000 in
set_option maxHeartbeats 800000 in
theorem indexLoop (g n c : Nat) (l : List Int) (y : Int) (w : World) (hn : n ≤ 256) (hg : g < w.heap.size) (hl : n = l.length) (hh : ∀ t, t < n → H8 w g (t * 8) (l.getD t 0)) :
    Calls Yba.prog 24 #[.slice (some ⟨g, 0, none⟩) n c, hv y] w fun e w' => ∃ r : Int, e = .returned (.int .i64 r) ∧ (0 ≤ r ↔ y ∈ l) ∧ Below w.heap.size w w' := by
  have heq := fun w a b => equal28 9998 a b w
  have hgd := eqGuard28
  have HL' : Hid (n = l.length) := hl
  clear hl
  go_enter Yba.func24, Yba.ntmps24
  go_wp2_with fail
  go_loopw [8] (fun i wx => ∃ t : Nat, t ≤ n ∧ i = .int .i64 t ∧ (∀ s, s < t → l.getD s 0 ≠ y) ∧ ∃ nq, wx = (w.alloc (.cells #[.int .u8 y, .int .u8 0, .int .u8 0, .int .u8 0, .int .u8 0, .int .u8 0, .int .u8 0, .int .u8 0] 28)).drewN nq) (fun i _ => n - (intOf i).toNat)
  case atStart => exact ⟨0, Nat.zero_le _, rfl, fun s hs => absurd hs (by omega), 0, rfl⟩
  case round =>
    obtain ⟨t, ht, rfl, hno, nq, hwx⟩ := hrel
    subst hwx
    have HNO : Hid (∀ s, s < t → l.getD s 0 ≠ y) := hno
    clear hno
    by_cases hlt : t < n
    · obtain ⟨a0, a1, a2, a3, a4, a5, a6, a7⟩ := hh t hlt
      have htl : t < l.length := by rw [← HL'.out]; exact hlt
      obtain ⟨x, hx⟩ : ∃ x, x = l.getD t 0 := ⟨_, rfl⟩
      rw [← hx] at a0
      have HX : Hid (x = l.getD t 0) := hx
      have hi1 : (t : Int) < (n : Int) := by omega
      have hi0 : (0 : Int) ≤ (t : Int) := by omega
      clear hh hx
      by_cases hxy : y = x
      · have hb : (y == x) = true := by simpa using hxy
        have HM : Hid (y ∈ l) := by
          simp only [Hid]; rw [hxy, HX.out, List.getD_eq_getElem?_getD, List.getElem?_eq_getElem htl]; exact List.getElem_mem htl
        clear hxy
        go_wp2_with fail
        go_quiet (fail)
        go_wp2
        go_ret
        refine ⟨(t : Int), rfl, ⟨fun _ => HM.out, fun _ => hi0⟩, ?_⟩
        exact ((Below.refl _ _).alloc (Nat.le_refl _) _).trans ⟨rfl, rfl, rfl, Nat.le_refl _, fun _ _ => rfl⟩
      · have hb : (y == x) = false := by simpa using hxy
        have HN : Hid (∀ s, s < t + 1 → l.getD s 0 ≠ y) := by
          intro s hs
          by_cases hst : s = t
          · rw [hst, ← HX.out]; exact fun e => hxy e.symm
          · exact HNO.out s (by omega)
        clear hxy
        go_wp2_with fail
        go_quiet (fail)
        go_wp2
        go_roundw
        case rel => exact ⟨t + 1, by omega, by go_num, HN.out, _, rfl⟩
        case measure => simp [intOf]; omega
    · have HM : Hid (y ∉ l) := by
        intro hm
        obtain ⟨s, hs, e⟩ := List.getElem_of_mem hm
        refine HNO.out s (by have := HL'.out; omega) ?_
        rw [List.getD_eq_getElem?_getD, List.getElem?_eq_getElem hs]
        simpa using e
      go_wp2
      go_ret
      refine ⟨-1, rfl, ⟨fun h => absurd h (by decide), fun h => absurd h HM.out⟩, ?_⟩
      exact ((Below.refl _ _).alloc (Nat.le_refl _) _).trans ⟨rfl, rfl, rfl, Nat.le_refl _, fun _ _ => rfl⟩

set_option maxRecDepth 100000 in
set_option maxHeartbeats 400000 in
theorem indexNone (ao : Option Addr) (c : Nat) (y : Int) (w : World) :
    Calls Yba.prog 24 #[.slice ao 0 c, hv y] w fun e w' => e = .returned (.int .i64 (-1)) ∧ Below w.heap.size w w' := by
  go_enter Yba.func24, Yba.ntmps24
  go_wp2_with fail
  refine wp_loop_rounds 1 ?_
  rw [rounds_succ]
  go_wp2
  go_ret
  exact ⟨rfl, (Below.refl _ _).alloc (Nat.le_refl _) _⟩

theorem indexC (ao : Option Addr) (c base : Nat) (l : List Int) (y : Int) (w : World) (hn : l.length ≤ 256) (h : HL w base ao c l) :
    Calls Yba.prog 24 #[.slice ao l.length c, hv y] w fun e w' => ∃ r : Int, e = .returned (.int .i64 r) ∧ (0 ≤ r ↔ y ∈ l) ∧ Below w.heap.size w w' := by
  by_cases hp : 0 < l.length
  · obtain ⟨g, rfl, _, hg, hc⟩ := h.eight hp
    exact indexLoop g l.length c l y w hn hg rfl hc
  · obtain rfl : l = [] := List.eq_nil_of_length_eq_zero (by omega)
    refine (indexNone ao c y w).mono ?_
    rintro e w' ⟨rfl, hb⟩
    exact ⟨-1, rfl, by simp, hb⟩

set_option maxRecDepth 100000 in
set_option maxHeartbeats 400000 in
theorem containsC (ao : Option Addr) (c base n : Nat) (l : List Int) (y : Int) (w : World) (hn : l.length ≤ 256) (hl : n = l.length) (h : HL w base ao c l) :
    Calls Yba.prog 23 #[.slice ao n c, hv y] w fun e w' => e = .returned (.bool (decide (y ∈ l))) ∧ Below w.heap.size w w' := by
  have H1 : Hid (∀ w', Below w.heap.size w w' → HL w' base ao c l) := fun w' hb => by
    refine ⟨h.1, ?_⟩
    rcases h.2 with hn | ⟨g, cap, cur, hv, hbg, hgg, rest⟩
    · exact .inl hn
    · exact .inr ⟨g, cap, cur, hv, hbg, (hb.block g (Array.getElem?_eq_some_iff.1 hgg).1).trans hgg, rest⟩
  subst hl
  go_enter Yba.func23, Yba.ntmps23
  go_wp2_with (go_at_call 24; refine (indexC ao c base l y _ hn (H1.out _ ((Below.refl _ _).alloc (Nat.le_refl _) _))).mono ?_; rintro e w1 ⟨r, rfl, hr, hb1⟩)
  go_ret
  have hb : Below w.heap.size w w1 := ((Below.refl _ _).alloc (Nat.le_refl _) _).trans (hb1.mono (by simp))
  exact ⟨rfl, hb⟩
end Go.Proofs.Ybulkamho
