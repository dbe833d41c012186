import Derived.Test.YbulkamhoASame
namespace Go.Proofs.Ybulkamho
open Go.RowKit
attribute [local go_sem ↓] Go.wp_at_zero Go.wp_at_succ
set_option linter.unusedSimpArgs false

theorem built_filter_succ (S K : Nat → Int) (who key : Int) (k : Nat) : (built S K (k + 1)).filter (keepB who key) = (built S K k).filter (keepB who key) ++ (if keepB who key (S k % 3, K k, (k : Int)) then [(S k % 3, K k, (k : Int))] else []) := by
  rw [built_succ, List.filter_append]
  congr 1
  simp [List.filter_cons]

theorem Resu.alloc {w : World} {R base : Nat} {latest sent read : Int} {l : List (Int × Int × Int)} {ao : Option Addr} {c : Nat} (h : Resu w R base latest sent read l ao c) (o : Obj) : Resu (w.alloc o) R base latest sent read l ao c :=
  ⟨(Below.heap_alloc _ _ _ (Nat.lt_of_lt_of_le h.low h.fits)).trans h.blk, h.own.alloc o, h.low, by have := h.fits; simp; omega⟩
theorem Resu.later {w w' : World} {R base : Nat} {latest sent read : Int} {l : List (Int × Int × Int)} {ao : Option Addr} {c : Nat} (h : Resu w R base latest sent read l ao c) (hb : Below w.heap.size w w') : Resu w' R base latest sent read l ao c := by
  refine ⟨(hb.block _ (Nat.lt_of_lt_of_le h.low h.fits)).trans h.blk, ?_, h.low, Nat.le_trans h.fits hb.size⟩
  refine ⟨h.own.1, ?_⟩
  rcases h.own.2 with hn | ⟨g, cap, cur, hv, hbg, hgg, rest⟩
  · exact .inl hn
  · exact .inr ⟨g, cap, cur, hv, hbg, (hb.block g (Array.getElem?_eq_some_iff.1 hgg).1).trans hgg, rest⟩

set_option maxRecDepth 100000 in
set_option maxHeartbeats 400000 in
theorem sameNone (ao bo : Option Addr) (ca cb : Nat) (w : World) :
    Calls Yba.prog 10 #[.slice ao 0 ca, .slice bo 0 cb] w fun e w' => e = .returned (.bool true) ∧ ∃ m, w' = w.drewN m := by
  go_enter Yba.func10, Yba.ntmps10
  go_wp2_with fail
  refine wp_loop_rounds 1 ?_
  rw [rounds_succ]
  go_wp2
  go_ret
  exact ⟨rfl, 0, rfl⟩

theorem reads_own {w : World} {base : Nat} {ao : Option Addr} {c : Nat} {l : List (Int × Int × Int)} (h : w.ownsRow base 43 29 (.slice ao l.length c) l.length (cells3 l)) (hl : 0 < l.length) :
    ∃ g, ao = some ⟨g, 0, none⟩ ∧ ∀ t, t < l.length → Reads w g (t * 29) (l.getD t (0, 0, 0)).1 (l.getD t (0, 0, 0)).2.1 (l.getD t (0, 0, 0)).2.2 := by
  rcases h.2 with ⟨_, h0⟩ | ⟨g, cap, cur, hv, _, hg, hnc, _, hcs, htk⟩
  · omega
  · simp at hv
    obtain ⟨rfl, rfl⟩ := hv
    refine ⟨g, rfl, fun t ht => reads_of ?_⟩
    have hr : RowIs w g c l := ⟨cur, hg, hcs, htk⟩
    refine hr.range ?_
    rw [List.getD_eq_getElem?_getD, List.getElem?_eq_getElem ht]
    rfl

theorem sameA (l : List (Int × Int × Int)) (ao bo : Option Addr) (ca cb b1 b2 : Nat) (w : World) (h1 : w.ownsRow b1 43 29 (.slice ao l.length ca) l.length (cells3 l)) (h2 : w.ownsRow b2 43 29 (.slice bo l.length cb) l.length (cells3 l)) (hn : l.length ≤ 1024) :
    Calls Yba.prog 10 #[.slice ao l.length ca, .slice bo l.length cb] w fun e w' => e = .returned (.bool true) ∧ ∃ m, w' = w.drewN m := by
  by_cases hl : 0 < l.length
  · obtain ⟨g, rfl, hg⟩ := reads_own h1 hl
    obtain ⟨g', rfl, hg'⟩ := reads_own h2 hl
    exact sameSome g g' l.length ca cb _ _ _ w hn hg hg'
  · have : l.length = 0 := by omega
    rw [this]
    exact sameNone ao bo ca cb w

theorem app_below {w0 w w1 : World} {v : Value} {B : Nat} {e : TypeId} {size n : Nat} {xs : List Value} {o1 o2 o3 o4 : Obj} (hb : Below B w0 w) (hB : B ≤ w.heap.size) (hown : w.ownsRow B e size v n xs) (hg : ((((w.alloc o1).alloc o2).alloc o3).alloc o4).drew.grownBy w1 v.ownBlock) : Below B w0 w1 :=
  Below.grown ((((hb.alloc hB _).alloc (by simp; omega) _).alloc (by simp; omega) _).alloc (by simp; omega) _).drew hg (by simp; omega) (fun k hk => (hown.lt k hk).1)

set_option maxRecDepth 100000 in
set_option maxHeartbeats 1600000 in
theorem lawA (a : Option Addr) (len cap : Nat) (S K : Nat → Int) (who key latest sent read : Int) (w : World) (hlen : len ≤ 1024) (hr : CRow w.heap.size w a len S K) (hw0 : 0 ≤ who) (hw1 : who ≤ 255) :
    Calls Yba.prog 3 #[.slice a len cap, .int .u8 who, .int .u32 key, .int .u32 latest, .int .i64 sent, .int .i64 read] w fun e w' => e = .returned (.bool true) ∧ Below w.heap.size w w' := by
  obtain ⟨i0, hi, hz⟩ := Option.map_eq_some_iff.1 Yba.info43
  simp only [Prod.mk.injEq] at hz
  obtain ⟨hz0, hz1, hz2⟩ := hz
  obtain ⟨z, hz0, hzs⟩ := Option.map_eq_some_iff.1 hz0
  go_enter Yba.func3, Yba.ntmps3
  go_wp2_with (first
    | (go_at_call 7; refine (buildA a len cap S K latest sent read w hlen hr).mono ?_; rintro e w1 ⟨ao, c, rfl, hres, hb1⟩)
    | (go_at_call 9; refine (handleA who _ hw0 hw1).mono ?_; rintro e w' ⟨rfl, rfl⟩)
    | (go_at_call 8; refine (dropA w.heap.size (w.heap.size + 1) (who % 3) key latest sent read (built S K len) ao c _ ((hres.alloc _).alloc _) (by rw [built_length]; exact hlen)).mono ?_; rintro e w3 ⟨rfl, hres3, hb3⟩))
  have hB3 : Below w.heap.size w w3 := ((hb1.alloc hb1.size _).alloc (by have := hb1.size; simp; omega) _).trans hb3
  clear hres hb3
  go_loopw [14, 32] (fun v i wr => ∃ k : Nat, k ≤ len ∧ i = .int .i64 k ∧ ∃ bo cb, v = .slice bo ((built S K k).filter (keepB (who % 3) key)).length cb ∧
      wr.ownsRow w3.heap.size 43 29 (.slice bo ((built S K k).filter (keepB (who % 3) key)).length cb) ((built S K k).filter (keepB (who % 3) key)).length (cells3 ((built S K k).filter (keepB (who % 3) key))) ∧ Below w3.heap.size w3 wr) (fun _ i _ => len - (intOf i).toNat)
  case atStart => exact ⟨0, Nat.zero_le _, rfl, none, 0, rfl, World.ownsRow_nil _ _ _ _, Below.refl _ _⟩
  case round =>
    obtain ⟨k, hk, rfl, bo, cb, rfl, hown, hbel⟩ := hrel
    have hfl : ((built S K k).filter (keepB (who % 3) key)).length ≤ k := by have := List.length_filter_le (keepB (who % 3) key) (built S K k); rw [built_length] at this; exact this
    obtain ⟨fl, hfe⟩ : ∃ fl, fl = (built S K k).filter (keepB (who % 3) key) := ⟨_, rfl⟩
    rw [← hfe] at hfl hown
    have HFE : Hid (fl = (built S K k).filter (keepB (who % 3) key)) := hfe
    rw [← hfe]
    clear hfe
    obtain ⟨m, hme⟩ : ∃ m, m = fl.length := ⟨_, rfl⟩
    rw [← hme] at hfl hown
    rw [← hme]
    have HME : Hid (m = fl.length) := hme
    clear hme
    by_cases hlt : k < len
    · obtain ⟨b, off, rfl, hbB, hc⟩ := hr (by omega)
      obtain ⟨cS, cK, s0, s1, k0, k1⟩ := hc k hlt
      have hBr : Below w.heap.size w wr := hB3.trans (hbel.mono hB3.size)
      have cS' := (hBr.cell (p := ⟨b, off + k * 2, none⟩) hbB).trans cS
      have cK' := (hBr.cell (p := ⟨b, off + k * 2 + 1, none⟩) hbB).trans cK
      have hz3 := hbel.size
      have hk0 : (0 : Int) ≤ (k : Int) := by omega
      have hk1 : (k : Int) < 1024 := by omega
      have hwk : IntKind.u32.wrap (k : Int) = (k : Int) := wrapU32 _ (by omega) (by omega)
      clear cS cK hc hr hBr
      have cC : ∀ cs : Array Value, ∀ t j, (wr.alloc (.cells cs t)).cell? ⟨wr.heap.size, j, none⟩ = cs[j]? := fun cs t j => World.cell?_alloc_at _ _ _ _ rfl
      have YES : Hid (keepB (who % 3) key (S k % 3, K k, (k : Int)) = true) → True := fun _ => trivial
      by_cases hxw : S k % 3 = who % 3
      · by_cases hkk : key < K k
        · have hb : ((S k % 3) != (who % 3)) = false := by simp [hxw]
          have HKP : Hid (keepB (who % 3) key (S k % 3, K k, (k : Int)) = true) := by simp [Hid, keepB, hkk]
          clear hxw YES
          go_wp2_with fail
          go_region_held3 (fun w' => w'.cell? ⟨wr.heap.size, 0, none⟩ = some (.int .u8 (S k)) ∧ w'.cell? ⟨wr.heap.size, 1, none⟩ = some (.int .u32 (K k)))
            (first | exact ⟨e2, e3⟩ | exact ⟨cC _ _ 0, cC _ _ 1⟩ | exact ⟨cell_alloc1 (cell_alloc1 (cC _ _ 0) _) _, cell_alloc1 (cell_alloc1 (cC _ _ 1) _) _⟩ | exact ⟨cell_alloc3 (cC _ _ 0) _ _ _, cell_alloc3 (cC _ _ 1) _ _ _⟩)
            (first | ((refine step_append_lies _ (by rfl) (.tmp 49) (.tmp 59) _ (by rfl) w3.heap.size 43 i0 z 29 160 Yba.underlying31 hi hz0 hz1 hz2 hzs (by omega) (.slice bo m cb) m (cells3 fl) (by rfl) ((((((hown.alloc _).alloc _).alloc _).alloc _).drew)) ⟨wr.heap.size + 3, 0, none⟩ 1 1 (chg (S k % 3) (K k) k) (by rfl) (by rfl) (by exact news4 wr _ _ _ (chg (S k % 3) (K k) k) 43) (chg_one _ _ _) (by omega) (by unfold maxLen; omega) (by omega) (by simp; omega) (wr.heap.size + 4) (by simp) ?_; intro g cap w4 hown4 hgrow hat hlt4; have e2 := app_new (j := 0) hown hgrow rfl; have e3 := app_new (j := 1) hown hgrow rfl)) | (go_at_call 9; refine (handleA (S k) _ s0 s1).mono ?_; rintro e w' ⟨rfl, rfl⟩))
          have hb4 := app_below hbel hz3 hown hgrow
          have e : (built S K (k + 1)).filter (keepB (who % 3) key) = fl ++ [(S k % 3, K k, (k : Int))] := by rw [built_filter_succ, HKP.out, ← HFE.out]; simp
          have el : m + 1 = (fl ++ [(S k % 3, K k, (k : Int))]).length := by rw [List.length_append, ← HME.out]; rfl
          have R : Hid (∃ bo cb, Value.slice (some ⟨g, 0, none⟩) (m + 1) cap = .slice bo ((built S K (k + 1)).filter (keepB (who % 3) key)).length cb ∧ w4.ownsRow w3.heap.size 43 29 (.slice bo ((built S K (k + 1)).filter (keepB (who % 3) key)).length cb) ((built S K (k + 1)).filter (keepB (who % 3) key)).length (cells3 ((built S K (k + 1)).filter (keepB (who % 3) key))) ∧ Below w3.heap.size w3 w4) := by
            rw [e, ← el, cells3_snoc]
            exact ⟨some ⟨g, 0, none⟩, cap, rfl, hown4, hb4⟩
          clear e el hown4 hgrow hb4 e2 e3 hat hlt4 cC
          go_wp2
          go_roundw
          case rel => exact ⟨k + 1, by omega, by go_num, R.out⟩
          case measure => simp [intOf]; omega
        · have hb : ((S k % 3) != (who % 3)) = false := by simp [hxw]
          have hd : decide (key < K k) = false := by simp; omega
          have HKP : Hid (keepB (who % 3) key (S k % 3, K k, (k : Int)) = false) := by simp [Hid, keepB, hxw, hkk]
          clear hxw YES
          go_wp2
          go_roundw
          case rel =>
            have e : (built S K (k + 1)).filter (keepB (who % 3) key) = fl := by rw [built_filter_succ, HKP.out, ← HFE.out]; simp
            exact ⟨k + 1, by omega, by go_num, bo, cb, by rw [e, ← HME.out], by rw [e, ← HME.out]; exact hown.alloc _, hbel.alloc hz3 _⟩
          case measure => simp [intOf]; omega
      · have hb : ((S k % 3) != (who % 3)) = true := by simp [hxw]
        have HKP : Hid (keepB (who % 3) key (S k % 3, K k, (k : Int)) = true) := by simp [Hid, keepB, hxw]
        clear hxw YES
        go_wp2_with fail
        go_region_held3 (fun w' => w'.cell? ⟨wr.heap.size, 0, none⟩ = some (.int .u8 (S k)) ∧ w'.cell? ⟨wr.heap.size, 1, none⟩ = some (.int .u32 (K k)))
          (first | exact ⟨e2, e3⟩ | exact ⟨cC _ _ 0, cC _ _ 1⟩ | exact ⟨cell_alloc1 (cell_alloc1 (cC _ _ 0) _) _, cell_alloc1 (cell_alloc1 (cC _ _ 1) _) _⟩ | exact ⟨cell_alloc3 (cC _ _ 0) _ _ _, cell_alloc3 (cC _ _ 1) _ _ _⟩)
          (first | ((refine step_append_lies _ (by rfl) (.tmp 49) (.tmp 59) _ (by rfl) w3.heap.size 43 i0 z 29 160 Yba.underlying31 hi hz0 hz1 hz2 hzs (by omega) (.slice bo m cb) m (cells3 fl) (by rfl) ((((((hown.alloc _).alloc _).alloc _).alloc _).drew)) ⟨wr.heap.size + 3, 0, none⟩ 1 1 (chg (S k % 3) (K k) k) (by rfl) (by rfl) (by exact news4 wr _ _ _ (chg (S k % 3) (K k) k) 43) (chg_one _ _ _) (by omega) (by unfold maxLen; omega) (by omega) (by simp; omega) (wr.heap.size + 4) (by simp) ?_; intro g cap w4 hown4 hgrow hat hlt4; have e2 := app_new (j := 0) hown hgrow rfl; have e3 := app_new (j := 1) hown hgrow rfl)) | (go_at_call 9; refine (handleA (S k) _ s0 s1).mono ?_; rintro e w' ⟨rfl, rfl⟩))
        have hb4 := app_below hbel hz3 hown hgrow
        have e : (built S K (k + 1)).filter (keepB (who % 3) key) = fl ++ [(S k % 3, K k, (k : Int))] := by rw [built_filter_succ, HKP.out, ← HFE.out]; simp
        have el : m + 1 = (fl ++ [(S k % 3, K k, (k : Int))]).length := by rw [List.length_append, ← HME.out]; rfl
        have R : Hid (∃ bo cb, Value.slice (some ⟨g, 0, none⟩) (m + 1) cap = .slice bo ((built S K (k + 1)).filter (keepB (who % 3) key)).length cb ∧ w4.ownsRow w3.heap.size 43 29 (.slice bo ((built S K (k + 1)).filter (keepB (who % 3) key)).length cb) ((built S K (k + 1)).filter (keepB (who % 3) key)).length (cells3 ((built S K (k + 1)).filter (keepB (who % 3) key))) ∧ Below w3.heap.size w3 w4) := by
          rw [e, ← el, cells3_snoc]
          exact ⟨some ⟨g, 0, none⟩, cap, rfl, hown4, hb4⟩
        clear e el hown4 hgrow hb4 e2 e3 hat hlt4 cC
        go_wp2
        go_roundw
        case rel => exact ⟨k + 1, by omega, by go_num, R.out⟩
        case measure => simp [intOf]; omega
    · obtain rfl : k = len := by omega
      have hr4 := hres3.later hbel
      rw [← HFE.out] at hr4
      have e0 : wr.cell? ⟨w.heap.size, 0, none⟩ = some (.int .u32 latest) := by rw [cell_of_row wr _ 0 _ 46 (0, 0) hr4.blk]; rfl
      have e1 : wr.cell? ⟨w.heap.size, 1, none⟩ = some (.int .i64 sent) := by rw [cell_of_row wr _ 1 _ 46 (0, 0) hr4.blk]; rfl
      have e2 : wr.cell? ⟨w.heap.size, 2, none⟩ = some (.int .i64 read) := by rw [cell_of_row wr _ 2 _ 46 (0, 0) hr4.blk]; rfl
      have e3 : wr.cell? ⟨w.heap.size, 3, none⟩ = some (.slice ao m c) := by rw [cell_of_row wr _ 3 _ 46 (0, 0) hr4.blk, HME.out]; rfl
      have hsame : Calls Yba.prog 10 #[.slice ao m c, .slice bo m cb] wr fun e w' => e = .returned (.bool true) ∧ ∃ m, w' = wr.drewN m := by
        have h1 := hr4.own
        rw [HME.out] at hown hfl ⊢
        exact sameA fl ao bo c cb _ _ wr h1 hown (by omega)
      have HS : Hid (Calls Yba.prog 10 #[.slice ao m c, .slice bo m cb] wr fun e w' => e = .returned (.bool true) ∧ ∃ m, w' = wr.drewN m) := hsame
      have hBr : Below w.heap.size w wr := hB3.trans (hbel.mono hB3.size)
      clear hsame hr4 hres3 hown
      go_wp2_with (go_at_call 10; refine HS.out.mono ?_; rintro e w4 ⟨rfl, nq, rfl⟩)
      go_ret
      exact ⟨rfl, hBr.trans ⟨rfl, rfl, rfl, Nat.le_refl _, fun _ _ => rfl⟩⟩
end Go.Proofs.Ybulkamho
