import Derived.Test.YbulkamjeTab
namespace Go.Proofs.Ybulkamje
open Go.RowKit Go.Maps Go.WideMaps
set_option linter.unusedSimpArgs false

theorem Rp_form {v : Value} {y : DataW Nat × List MemPlace} (h : Rp v = some y) : ∃ p, v = .pointer p := by
  unfold Rp at h
  split at h
  · exact ⟨_, rfl⟩
  · exact ⟨_, rfl⟩
  · cases h
theorem key_form {v : Value} {kl : Lit} (h : keyOf Yba.prog 9 v = some kl) : ∃ s : ByteArray, v = .string s := by
  obtain ⟨s, hs, _⟩ := string_of_keyOf Yba.underlying9 h
  exact ⟨s, hs⟩
theorem ranges_drewN {w : World} {b r n : Nat} {R : Value → Option (DataW Nat × List MemPlace)} {D : DataW Nat} {left : Lit → Bool} {cnt : Nat} (h : w.ranges Yba.prog 9 R b r n D left cnt) (q : Nat) : (w.drewN q).ranges Yba.prog 9 R b r n D left cnt := h
theorem below_drewN {B : Nat} {w w' : World} (h : Below B w w') (q : Nat) : Below B w (w'.drewN q) := h.trans ⟨rfl, rfl, rfl, Nat.le_refl _, fun _ _ => rfl⟩

/-- What one group keeps that is not known to be stable, over its first p places. -/
def heldTo (D : Nat → Int) (K : Nat → Nat) (A : Nat → Nat → Int) (n : Nat) (p : Nat) : Int := total (fun q => D q + K q - stabTo (D q + K q) A q n) p

/-- The bounds that a group's numbers keep to. -/
structure Fits (n : Nat) (D : Nat → Int) (K : Nat → Nat) (A : Nat → Nat → Int) : Prop where
  d0 : ∀ p, p < n → 0 ≤ D p
  d1 : ∀ p, p < n → D p ≤ 1000
  k1 : ∀ p, p < n → K p ≤ 1000
  a0 : ∀ m p, m < n → p < n → 0 ≤ A m p ∧ A m p ≤ 1000000
theorem held_bounds {n : Nat} {D : Nat → Int} {K : Nat → Nat} {A : Nat → Nat → Int} (h : Fits n D K A) : ∀ p, p ≤ n → 0 ≤ heldTo D K A n p ∧ heldTo D K A n p ≤ 2000 * p
  | 0, _ => ⟨Int.le_refl _, by simp [heldTo, total]⟩
  | p + 1, hp => by
    have ih := held_bounds h p (by omega)
    have b := stabTo_bounds (D p + K p) A p (by have := h.d0 p (by omega); omega) n (fun j hj => (h.a0 j p hj (by omega)).1)
    have := h.d1 p (by omega)
    have := h.k1 p (by omega)
    simp only [heldTo, total] at ih ⊢
    omega
theorem doneSum_bounds (f : Nat → Int) (left : Lit → Bool) (c : Int) : ∀ n, (∀ i, i < n → 0 ≤ f i ∧ f i ≤ c) → 0 ≤ doneSum f left n ∧ doneSum f left n ≤ c * n
  | 0, _ => by simp [doneSum]
  | n + 1, h => by
    have ih := doneSum_bounds f left c n (fun i hi => h i (by omega))
    have := h n (by omega)
    unfold doneSum
    have e : c * ((n + 1 : Nat) : Int) = c * n + c := by rw [Int.natCast_add, Int.mul_add]; simp
    rw [e]
    split <;> omega

set_option maxRecDepth 100000 in
set_option maxHeartbeats 1600000 in
theorem retainedC (O mb nn N : Nat) (Dm : DataW Nat) (sh : Nat → Shape) (D : Nat → Nat → Int) (K : Nat → Nat → Nat) (A : Nat → Nat → Nat → Int) (w : World) (hN : N ≤ 256) (cO : w.cell? ⟨O, 1, none⟩ = some (.map (some mb)))
    (hown : w.ownsMap Yba.prog 9 Rp mb nn Dm) (htab : Tab Dm (fun i => decide (i < N)) (fun i => .lit (.int .i64 (sh i).G))) (hg : ∀ i, i < N → Grp w (sh i) (D i) (K i) (A i)) (hhi : ∀ i, i < N → (sh i).hi ≤ w.heap.size) (hf : ∀ i, i < N → Fits (sh i).n (D i) (K i) (A i)) :
    Calls Yba.prog 10 #[.pointer (some ⟨O, 0, none⟩)] w fun e w' => e = .returned (.int .i64 (total (fun i => heldTo (D i) (K i) (A i) (sh i).n (sh i).n) N)) ∧ Below w.heap.size w w' := by
  have HG : Hid (∀ i, i < N → Grp w (sh i) (D i) (K i) (A i)) := hg
  have HT : Hid (Tab Dm (fun i => decide (i < N)) (fun i => .lit (.int .i64 (sh i).G))) := htab
  obtain ⟨f, hfe⟩ : ∃ f : Nat → Int, f = fun i => heldTo (D i) (K i) (A i) (sh i).n (sh i).n := ⟨_, rfl⟩
  have HF : Hid (f = fun i => heldTo (D i) (K i) (A i) (sh i).n (sh i).n) := hfe
  rw [← hfe]
  have hfb : ∀ i, i < N → 0 ≤ f i ∧ f i ≤ 8000 := fun i hi => by
    rw [hfe]
    have h1 := held_bounds (hf i hi) (sh i).n (Nat.le_refl _)
    have h2 := (hg i hi).four
    exact ⟨h1.1, by have := h1.2; simp only; omega⟩
  have HFB : Hid (∀ i, i < N → 0 ≤ f i ∧ f i ≤ 8000) := hfb
  have HOW : Hid (w.ownsMap Yba.prog 9 Rp mb nn Dm) := hown
  clear hg htab hfe hfb hown
  go_enter Yba.func10, Yba.ntmps10
  go_wp2_with (refine wpList_range_own _ rfl (.tmp 10) 27 rfl 9 26 K9 Yba.underlying27 Rp mb nn Dm rfl HOW.out ?_; intro w1 hr1 hgr1 hs1)
  have hb1 : Below w.heap.size w w1 := (Below.refl _ _).grown hgr1 (Nat.le_refl _) (fun k e => by cases e)
  have HR1 : Hid (w1.ranges Yba.prog 9 Rp mb w.heap.size nn Dm (Maps.has Dm) (Maps.size Dm)) := hr1
  clear hr1 hgr1
  try simp only [Act.put, List.setIfInBounds_toArray, List.set_cons_zero, List.set_cons_succ]
  go_loopg [3] (Maps.size Dm) (fun g v wr => ∃ left, v = .int .i64 (doneSum f left N) ∧ (∀ kl, left kl = true → ∃ i, i < N ∧ kl = lit i) ∧ wr.ranges Yba.prog 9 Rp mb w.heap.size nn Dm left g ∧ Below w.heap.size w wr)
  case atStart =>
    refine ⟨Maps.has Dm, ?_, fun kl hk => ?_, HR1.out, hb1⟩
    · rw [doneSum_none f _ N (fun i hi => (HT.out.has _).2 ⟨i, by omega, by simpa using hi, rfl⟩)]
    · obtain ⟨i, _, hi, rfl⟩ := (HT.out.has kl).1 hk
      exact ⟨i, by simpa using hi, rfl⟩
  case round =>
    obtain ⟨left, rfl, hleft, hrg, hbel⟩ := hrel
    have HL : Hid (∀ kl, left kl = true → ∃ i, i < N ∧ kl = lit i) := hleft
    have HRG : Hid (wr.ranges Yba.prog 9 Rp mb w.heap.size nn Dm left gk) := hrg
    have hsb := doneSum_bounds f left 8000 N HFB.out
    clear hleft hrg
    rcases HRG.out.next K9 0 with ⟨h0, hl, hrun⟩ | ⟨ky, v, kl, y, w2, cnt', hkey, hlk, hv, hat, hrun, hrg2, hlt, hgr, hsz, hen⟩
    · have hnx : ∀ ty, (Instr.next (.pointer (some ⟨w.heap.size, 0, none⟩)) false ty).run Yba.prog wr = _ := fun _ => hrun
      have HE : Hid (doneSum f left N = total f N) := doneSum_all f left hl N
      clear hrun hl
      go_wp2
      go_ret
      exact ⟨by rw [← HE.out]; rfl, hbel⟩
    · obtain ⟨i, hi, rfl⟩ := HL.out kl hlk
      obtain ⟨ks, rfl⟩ := key_form hkey
      obtain rfl : v = .pointer (some ⟨(sh i).G, 0, none⟩) := Rp_inv hv (by rw [← hat .nil]; exact HT.out.at_ i (by omega) (by simpa using hi) _)
      have hnx : ∀ ty, (Instr.next (.pointer (some ⟨w.heap.size, 0, none⟩)) false ty).run Yba.prog wr = _ := fun _ => hrun
      have hb2 : Below w.heap.size w w2 := hbel.grown hgr hbel.size (fun k e => by cases e; exact Nat.le_refl _)
      have HG2 : Hid (Grp w2 (sh i) (D i) (K i) (A i)) := (HG.out i hi).keep (fun b _ hb => hb2.block b (by have := hhi i hi; omega))
      have HSTEP : Hid (doneSum f (fun z => left z && !z.sameKey (lit i)) N = doneSum f left N + f i) := doneSum_step f left i hlk N hi hN
      have HRG2 : Hid (w2.ranges Yba.prog 9 Rp mb w.heap.size nn Dm (fun z => left z && !z.sameKey (lit i)) cnt') := hrg2
      have hft := hf i hi
      have HFI : Hid (f i = heldTo (D i) (K i) (A i) (sh i).n (sh i).n) := congrFun HF.out i
      have hfi := HFB.out i hi
      have h4 := HG2.out.four
      have c2 := HG2.out.cmem
      have hGlt : (sh i).G < w2.heap.size := Nat.lt_of_lt_of_le HG2.out.bG.2 (Nat.le_trans (hhi i hi) hb2.size)
      clear hrun hv hat hrg2 hgr hkey
      generalize sh i = si at *
      generalize D i = Di at *
      generalize K i = Ki at *
      generalize A i = Ai at *
      generalize doneSum f left N = base at *
      go_wp2_with fail
      go_loopg [3, 21] (si.n + 1) (fun g v i wr => ∃ p q : Nat, g = si.n + 1 - p ∧ p ≤ si.n ∧ i = .int .i64 p ∧ v = .int .i64 (base + heldTo Di Ki Ai si.n p) ∧ wr = w2.drewN q)
      case atStart => exact ⟨0, 0, rfl, Nat.zero_le _, rfl, by simp [heldTo, total], rfl⟩
      case round =>
        obtain ⟨p, q, rfl, hp, rfl, rfl, rfl⟩ := hrel
        have hhb := held_bounds hft p hp
        by_cases hpl : p < si.n
        · have hd0 := hft.d0 p hpl
          have hd1 := hft.d1 p hpl
          have hk1 := hft.k1 p hpl
          have HRC := fun q' => receivedC si Di Ki Ai p (w2.drewN q') (HG2.out.drewN q') hpl hd0 (by omega) (by omega)
          have HSC := fun q' => stableC si Di Ki Ai p (w2.drewN q') (HG2.out.drewN q') hpl hd0 (by omega) (by omega) (fun m hm => hft.a0 m p hm hpl)
          have hsbp := stabTo_bounds (Di p + Ki p) Ai p (by omega) si.n (fun j hj => (hft.a0 j p hj hpl).1)
          have HSU : Hid (heldTo Di Ki Ai si.n (p + 1) = heldTo Di Ki Ai si.n p + (Di p + Ki p - stabTo (Di p + Ki p) Ai p si.n)) := rfl
          generalize heldTo Di Ki Ai si.n p = hp' at *
          generalize stabTo (Di p + Ki p) Ai p si.n = st at *
          generalize Di p = dp at *
          generalize Ki p = kp at *
          have hj0 : (0 : Int) ≤ (p : Int) := by omega
          have hj1 : (p : Int) < (si.n : Int) := by omega
          go_wp2_with (first
            | (go_at_call 14; refine (HRC _).mono ?_; rintro e w3 ⟨rfl, q1, rfl⟩)
            | (go_at_call 15; refine (HSC _).mono ?_; rintro e w3 ⟨rfl, q1, rfl⟩))
          go_roundg (si.n + 1 - (p + 1))
          case measure => omega
          case rel => exact ⟨p + 1, _, rfl, by omega, by go_num, by rw [HSU.out]; congr 1; omega, by first | rfl | simp⟩
        · obtain rfl : si.n = p := by omega
          have HV : Hid (base + heldTo Di Ki Ai si.n si.n = doneSum f (fun z => left z && !z.sameKey (lit i)) N) := by
            have h1 := HSTEP.out
            have h2 := HFI.out
            show _ = _
            omega
          go_wp2
          go_roundg cnt'
          case measure => omega
          case rel => exact ⟨_, by rw [HV.out], fun kl hk => HL.out kl (by simp at hk; exact hk.1), ranges_drewN HRG2.out _, below_drewN hb2 _⟩
end Go.Proofs.Ybulkamje
