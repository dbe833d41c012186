import Derived.Test.YbulkamhoBWalks
import Derived.Deep.DeepCutAuto
import Derived.Deep.QuietTactic
import Derived.BigQuiet
namespace Go.Proofs.Ybulkamho
open Go.RowKit

/-- The contract of appendHandleList, the value's shape told. -/
theorem appendHL' (base : Nat) (sv : Value) (n : Nat) (xs : List Value) (a : Option Addr) (len cap : Nat) (H : Nat → Nat → Int) (w : World) (hlen : len ≤ 1024)
    (hr : HRow base w a len H) (hown : w.ownsRow base 5 1 sv n xs) (hb : base ≤ w.heap.size) (hn : n ≤ 1024) :
    Calls Yba.prog 11 #[sv, .slice a len cap] w fun e w' => ∃ g c, e = .returned (.slice (some ⟨g, 0, none⟩) (n + 4 + 8 * len) c) ∧ w'.ownsRow base 5 1 (.slice (some ⟨g, 0, none⟩) (n + 4 + 8 * len) c) (n + 4 + 8 * len) (xs ++ (be4 len).map (Value.int .u8) ++ (rows8 H len).map (Value.int .u8)) ∧ Below base w w' := by
  refine (appendHL base sv n xs a len cap H w hlen hr hown hb hn).mono ?_
  rintro e w' ⟨v', rfl, h1, h2⟩
  rcases h1.2 with ⟨_, h⟩ | ⟨g, c, cur, hv, _⟩
  · omega
  · subst hv
    exact ⟨g, c, rfl, h1, h2⟩

/-- What is known of a slice of bytes that came in. -/
structure BRow (w : World) (a : Option Addr) (len cap : Nat) (Z : List Int) : Prop where
  length : Z.length = len
  nil : a = none → len = 0 ∧ cap = 0
  cells : ∀ ad, a = some ad → ∀ j u, (Z.map (Value.int .u8))[j]? = some u → w.cell? (ad.add j) = some u

theorem add_block (a : Addr) (j : Nat) : (a.add j).block = a.block := by unfold Addr.add; split <;> rfl

theorem BRow.later {w w' : World} {a : Option Addr} {len cap : Nat} {Z : List Int} (h : BRow w a len cap Z) (hb : Below w.heap.size w w') : BRow w' a len cap Z :=
  ⟨h.length, h.nil, fun ad ha j u hu => by
    have hc := h.cells ad ha j u hu
    exact (hb.cell (World.block_lt_of_cell? w _ hc)).trans hc⟩

/-- 'copy(in, b)' onto a row of the call's own, as long as b. -/
theorem wpList_copy_row {P : Program} {w : World} {ops : Array Oper} {rest : List Oper} {o : Oper} {a : Act} {Q : Exit → Act → World → Prop} (hgd : o.guard = none) (d s : Operand) (dT sT : TypeId)
    (ho : o.op = .call { callee := .builtin .copy, args := #[d, s], argTypes := #[dT, sT] }) (elem : TypeId) (hu : P.underlying dT = some (.slice elem)) (hsz : (P.info? elem).map (·.size) = some 1)
    (g n c : Nat) (ad : Addr) (c' : Nat) (hd : a.eval d = .slice (some ⟨g, 0, none⟩) n c) (hs : a.eval s = .slice (some ad) n c')
    (base : Nat) (xs cs : List Value) (hown : w.ownsRow base elem 1 (.slice (some ⟨g, 0, none⟩) n c) n xs) (hn : cs.length = n)
    (hsrc : ∀ j v, cs[j]? = some v → w.cell? (ad.add j) = some v) (h1 : ∀ v ∈ cs, v.oneCell' = true)
    (h : ∀ w', w'.ownsRow base elem 1 (.slice (some ⟨g, 0, none⟩) n c) n cs → w.grownBy w' (some g) → wpList P ops Q rest (a.put o.dst (goInt n)) w') : wpList P ops Q (o :: rest) a w := by
  rcases hown.2 with ⟨h', _⟩ | ⟨g', cap', cur, h', hbg, hg, hnc, hcm, hcs, htake⟩
  · simp at h'
  · simp only [Value.slice.injEq, Option.some.injEq, Addr.mk.injEq, and_true, true_and] at h'
    obtain ⟨rfl, rfl⟩ := h'
    refine wpList_copy_own hgd d s dT sT ho elem hu hsz g 0 n c ad n c' hd hs cur elem hg cs (by simp [hn]) hsrc (by omega) h1 ?_
    rw [hn]
    refine h _ ⟨by omega, .inr ⟨g, c, _, rfl, hbg, setRow_heap w g cur _ elem _ hg, hnc, hcm, ?_, ?_⟩⟩ ⟨rfl, rfl, rfl, by simp [World.setRow], fun k _ hk => setRow_other w g k _ (fun e => hk (by simp [e]))⟩
    · simp; omega
    · simp [hn]

/-- The four bytes of a small number. -/
def be4s (v : Int) : List Int := [v / 16777216, v / 65536, v / 256, v % 256]
theorem be4_small (n : Nat) (h : n ≤ 1024) : be4s n = be4 n := by
  unfold be4 be4s
  rw [show ((n : Int) / 65536 % 256) = (n : Int) / 65536 from by omega, show ((n : Int) / 256 % 256) = (n : Int) / 256 from by omega]

theorem row8_take (H : Nat → Nat → Int) (k m : Nat) (h : m < 8) : (row8 H k).take (m + 1) = (row8 H k).take m ++ [H k m] := by
  match m, h with
  | 0, _ | 1, _ | 2, _ | 3, _ | 4, _ | 5, _ | 6, _ | 7, _ => rfl

theorem ownsRow_below {w w' : World} {B base : Nat} {e : TypeId} {size : Nat} {v : Value} {n : Nat} {xs : List Value} (h : w.ownsRow base e size v n xs) (hb : Below B w w') (hB : w.heap.size ≤ B) : w'.ownsRow base e size v n xs := by
  refine ⟨h.1, ?_⟩
  rcases h.2 with hn | ⟨g, cap, cur, rfl, hbg, hgg, rest⟩
  · exact .inl hn
  · refine .inr ⟨g, cap, cur, rfl, hbg, ?_, rest⟩
    rw [hb.block g (by have := (Array.getElem?_eq_some_iff.1 hgg).1; omega)]
    exact hgg

/-- All the bytes: of b, of the number, of the handles. -/
def allBytes (Z : List Int) (H : Nat → Nat → Int) (len1 : Nat) : List Int := Z ++ be4 len1 ++ rows8 H len1
theorem allBytes_length (Z : List Int) (H : Nat → Nat → Int) (len1 : Nat) : (allBytes Z H len1).length = Z.length + 4 + 8 * len1 := by
  simp [allBytes, rows8_length, be4]; omega

theorem own_cells {w : World} {base g n cap : Nat} {F : List Int} (h : w.ownsRow base 5 1 (.slice (some ⟨g, 0, none⟩) n cap) n (F.map (Value.int .u8))) : ∀ j, j < n → w.cell? ⟨g, j, none⟩ = some (.int .u8 (F.getD j 0)) := by
  intro j hj
  have hl := h.1
  simp at hl
  rw [h.cellAt j (by omega), List.getElem?_map, List.getD_eq_getElem?_getD, List.getElem?_eq_getElem (by omega)]
  simp

set_option maxRecDepth 100000 in
set_option maxHeartbeats 1600000 in
theorem lawB (a0 : Option Addr) (len0 cap0 : Nat) (Z : List Int) (a1 : Option Addr) (len1 cap1 : Nat) (H : Nat → Nat → Int) (w : World)
    (h0 : BRow w a0 len0 cap0 Z) (h1 : HRow w.heap.size w a1 len1 H) (hl0 : len0 ≤ 1024) (hl1 : len1 ≤ 1024) :
    Calls Yba.prog 4 #[.slice a0 len0 cap0, .slice a1 len1 cap1] w fun e w' => e = .returned (.bool true) ∧ Below w.heap.size w w' := by
  obtain ⟨i0, hi, hz0, hz1, hz2⟩ := info_parts Yba.info5
  have hsz5 : (Yba.prog.info? 5).map (·.size) = some 1 := by rw [hi]; simp [hz1]
  have q39 : ∀ (w : World) (a : Option Addr) (n c n' c' : Nat), (binOp .neq 39 (.slice a n c) (.slice none n' c')).run Yba.prog w = .ok (.bool !a.isNone) w := fun w a n c n' c' => run_neq_slice_nil_any w _ _ a n c n' c' Yba.underlying39
  have hZ := h0.length
  have HZ : Hid (Z.length = len0) := hZ
  clear hZ
  go_enter Yba.func4, Yba.ntmps4
  go_upto_if 21 with fail
  go_cut [5] (fun v wc => wc.ownsRow w.heap.size 5 1 v len0 (Z.map (Value.int .u8)) ∧ Below w.heap.size w wc)
  case first =>
    cases a0 with
    | none =>
      obtain ⟨rfl, rfl⟩ := h0.nil rfl
      go_wp2_with fail
      go_meet
      case rel =>
        have : Z = [] := List.eq_nil_of_length_eq_zero HZ.out
        subst this
        exact ⟨World.ownsRow_nil _ _ _ _, Below.refl _ _⟩
    | some ad =>
      go_wp2_with (first
        | (at_make; refine wpList_make_full _ rfl _ _ 39 rfl w.heap.size 5 i0 (.int .u8 0) 1 Yba.underlying39 hi hz0 hz1 _ _ _ _ len0 rfl rfl rfl rfl (by rw [hz2]; omega) (by unfold maxLen; omega) (Nat.le_refl _) ?_; intro w1 hown1 hgrow1)
        | (refine wpList_copy_row rfl (.tmp 25) (.tmp 26) 39 39 rfl 5 Yba.underlying39 hsz5 w.heap.size len0 len0 ad cap0 rfl rfl w.heap.size _ (Z.map (Value.int .u8)) hown1 (by simpa using HZ.out) ((h0.later ((Below.refl _ _).grown hgrow1 (Nat.le_refl _) (by intro k hk; cases hk))).cells ad rfl) (ints_oneCell _ _) ?_; intro w2 hown2 hgrow2))
      go_meet
      case rel =>
        have b1 : Below w.heap.size w w1 := (Below.refl _ _).grown hgrow1 (Nat.le_refl _) (by intro k hk; cases hk)
        exact ⟨hown2, b1.grown hgrow2 b1.size (by intro k hk; cases hk; exact Nat.le_refl _)⟩
  case rest =>
    obtain ⟨hownc, hbc⟩ := hcut
    have h1c : HRow w.heap.size wc a1 len1 H := by
      intro hp
      obtain ⟨b, off, ha, hb, hc⟩ := h1 hp
      exact ⟨b, off, ha, hb, fun i hi j hj => (hbc.cell (by exact hb)).trans (hc i hi j hj)⟩
    go_wp2_with (first
      | (go_at_call 11; refine (appendHL' w.heap.size _ len0 _ a1 len1 cap1 H wc hl1 h1c hownc hbc.size hl0).mono ?_; rintro e w2 ⟨g, cg, rfl, hown2, hb2⟩)
      | (at_make; refine wpList_make_own _ rfl _ _ 39 rfl w2.heap.size 5 i0 (.int .u8 0) 1 Yba.underlying39 hi hz0 hz1 _ _ _ (len0 + 4 + 8 * len1) rfl rfl (by omega) (by rw [hz2]; omega) (by unfold maxLen; omega) (Nat.le_refl _) ?_; intro w3 hown3 hgrow3; have b3 : Below w2.heap.size w2 w3 := (Below.refl _ _).grown hgrow3 (Nat.le_refl _) (by intro k hk; cases hk); have hB2 := hbc.trans hb2; have h03 := h0.later (hB2.trans (b3.mono hB2.size)))
      | (at_builtin; (refine wpList_append_fits_any _ rfl (.tmp 42) (.tmp 43) 39 rfl w2.heap.size 5 i0 1 Yba.underlying39 hi hz1 w2.heap.size 0 (len0 + 4 + 8 * len1) [] rfl hown3 a0 len0 cap0 (Z.map (Value.int .u8)) rfl (by simpa using HZ.out) h0.nil (h03.cells) (ints_oneCell _ _) (by omega) ?_; intro w4 hown4 hgrow4; simp only [Nat.zero_add, List.nil_append] at hown4))
      | (at_builtin; (refine wpList_append_fits _ rfl (.tmp 45) (.tmp 57) 39 rfl w2.heap.size 5 i0 1 Yba.underlying39 hi hz1 w2.heap.size _ (len0 + 4 + 8 * len1) _ rfl (hown4.alloc _) ⟨w4.heap.size, 0, none⟩ 4 4 ((be4s len1).map (Value.int .u8)) rfl rfl (cell_lit w4 ((be4s len1).map (Value.int .u8)) 5) (ints_oneCell _ _) (by omega) ?_; intro w5 hown5 hgrow5)))
    have b4 : Below w2.heap.size w2 w4 := b3.grown hgrow4 b3.size (by intro k hk; cases hk; exact Nat.le_refl _)
    have b5 : Below w2.heap.size w2 w5 := (b4.alloc b4.size _).grown hgrow5 (by have := b4.size; simp; omega) (by intro k hk; cases hk; exact Nat.le_refl _)
    rw [be4_small len1 hl1] at hown5
    clear hgrow3 hgrow4 hgrow5 hown3 hown4 b3 b4 h03 hownc h1c hi hsz5
    obtain ⟨i0, hi, hz0, hz1, hz2⟩ := info_parts Yba.info5
    go_loopw [8, 9] (fun v i wr => ∃ k : Nat, k ≤ len1 ∧ i = .int .i64 k ∧ v = .slice (some ⟨w2.heap.size, 0, none⟩) (len0 + 4 + 8 * k) (len0 + 4 + 8 * len1) ∧
        wr.ownsRow w2.heap.size 5 1 (.slice (some ⟨w2.heap.size, 0, none⟩) (len0 + 4 + 8 * k) (len0 + 4 + 8 * len1)) (len0 + 4 + 8 * k) (Z.map (Value.int .u8) ++ (be4 len1).map (Value.int .u8) ++ (rows8 H k).map (Value.int .u8)) ∧ Below w2.heap.size w2 wr) (fun _ i _ => len1 - (intOf i).toNat)
    case atStart => exact ⟨0, Nat.zero_le _, rfl, rfl, by simpa [rows8] using hown5, b5⟩
    case round =>
      obtain ⟨k, hk, rfl, rfl, hownk, hbk⟩ := hrel
      clear hown5 b5
      by_cases hlt : k < len1
      · obtain ⟨b, off, rfl, hbB, hc⟩ := h1 (by omega)
        go_wp2_with fail
        go_loopw [8, 10] (fun v i wr => ∃ m : Nat, m ≤ 8 ∧ i = .int .i64 m ∧ v = .slice (some ⟨w2.heap.size, 0, none⟩) (len0 + 4 + 8 * k + m) (len0 + 4 + 8 * len1) ∧
          wr.ownsRow w2.heap.size 5 1 (.slice (some ⟨w2.heap.size, 0, none⟩) (len0 + 4 + 8 * k + m) (len0 + 4 + 8 * len1)) (len0 + 4 + 8 * k + m) (Z.map (Value.int .u8) ++ (be4 len1).map (Value.int .u8) ++ (rows8 H k ++ (row8 H k).take m).map (Value.int .u8)) ∧ Below w2.heap.size w2 wr) (fun _ i _ => 8 - (intOf i).toNat)
        case atStart => exact ⟨0, Nat.zero_le _, rfl, rfl, by simpa using hownk, hbk⟩
        case round =>
          obtain ⟨m, hm, rfl, rfl, hownm, hbm⟩ := hrel
          clear hownk hbk
          have hz := hbm.size
          by_cases hmlt : m < 8
          · have hcm : wr.cell? ⟨b, off + k * 8 + m, none⟩ = some (.int .u8 (H k m)) := (hbm.cell (by have := hB2.size; exact Nat.lt_of_lt_of_le hbB this)).trans ((hB2.cell (by exact hbB)).trans (hc k hlt m hmlt))
            go_wp2_with (at_builtin; (refine wpList_append_fits _ rfl (.tmp 69) (.tmp 76) 39 rfl w2.heap.size 5 i0 1 Yba.underlying39 hi hz1 w2.heap.size _ (len0 + 4 + 8 * len1) _ rfl (hownm.alloc _) ⟨wr.heap.size, 0, none⟩ 1 1 ([H k m].map (Value.int .u8)) rfl rfl (cell_lit wr ([H k m].map (Value.int .u8)) 5) (ints_oneCell _ _) (by omega) ?_; intro w6 hown6 hgrow6))
            have b6 : Below w2.heap.size w2 w6 := (hbm.alloc hbm.size _).grown hgrow6 (by simp; omega) (by intro k hk; cases hk; exact Nat.le_refl _)
            clear hcm hgrow6
            go_wp2
            go_roundw
            case rel => exact ⟨m + 1, by omega, by go_num, rfl, by rw [row8_take H k m hmlt]; simpa [Nat.add_assoc] using hown6, b6⟩
            case measure => simp [intOf]; omega
          · obtain rfl : m = 8 := by omega
            go_wp2
            go_roundw
            case rel => exact ⟨k + 1, by omega, by go_num, rfl, by simpa [rows8, row8, Nat.mul_add, Nat.add_assoc] using hownm, hbm⟩
            case measure => simp [intOf]; omega
      · obtain rfl : k = len1 := by omega
        have hg : ∀ j, j < len0 + 4 + 8 * k → wr.cell? ⟨g, j, none⟩ = some (.int .u8 ((allBytes Z H k).getD j 0)) := own_cells (base := w.heap.size) (cap := cg) (by have := ownsRow_below hown2 hbk (Nat.le_refl _); simpa [allBytes] using this)
        have hw : ∀ j, j < len0 + 4 + 8 * k → wr.cell? ⟨w2.heap.size, j, none⟩ = some (.int .u8 ((allBytes Z H k).getD j 0)) := own_cells (base := w2.heap.size) (cap := len0 + 4 + 8 * k) (by simpa [allBytes] using hownk)
        have hbw : Below w.heap.size w wr := hB2.trans (hbk.mono hB2.size)
        clear hownk hown2 hbk
        go_wp2_with fail
        go_loopw [11] (fun i wx => ∃ t : Nat, t ≤ len0 + 4 + 8 * k ∧ i = .int .i64 t ∧ ∃ nq, wx = wr.drewN nq) (fun i _ => len0 + 4 + 8 * k - (intOf i).toNat)
        case atStart => exact ⟨0, Nat.zero_le _, rfl, 0, rfl⟩
        case round =>
          obtain ⟨t, ht, rfl, nq, hwx⟩ := hrel
          subst hwx
          by_cases htl : t < len0 + 4 + 8 * k
          · have c1 := hg t htl
            have c2 := hw t htl
            have hi1 : (t : Int) < (len0 : Int) + 4 + 8 * (k : Int) := by omega
            clear hg hw
            go_wp2_with fail
            go_quiet (fail)
            go_wp2
            go_roundw
            case rel => exact ⟨t + 1, by omega, by go_num, _, rfl⟩
            case measure => simp [intOf]; omega
          · go_wp2
            go_ret
            exact ⟨rfl, hbw.trans ⟨rfl, rfl, rfl, Nat.le_refl _, fun _ _ => rfl⟩⟩
end Go.Proofs.Ybulkamho
