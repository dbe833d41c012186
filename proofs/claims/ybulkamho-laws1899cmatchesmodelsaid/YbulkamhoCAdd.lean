import Derived.Test.YbulkamhoCUndone
import Derived.Test.YbulkamhoHeldParts
namespace Go.Proofs.Ybulkamho
open Go.RowKit
attribute [local go_sem ↓] Go.wp_at_zero Go.wp_at_succ
set_option linter.unusedSimpArgs false

set_option maxRecDepth 100000 in
set_option maxHeartbeats 400000 in
theorem undoneNone (R cap : Nat) (ao : Option Addr) (sender me : Int) (w : World) (cR : w.cell? ⟨R, 3, none⟩ = some (.slice ao 0 cap)) :
    Calls Yba.prog 21 #[.pointer (some ⟨R, 0, none⟩), hv sender, hv me] w fun e w' => e = .returned (.map (some (w.heap.size + 1 + 1))) ∧ HMap w' (w.heap.size + 1 + 1) [] ∧ Below w.heap.size w w' := by
  have hmm := @run_makeMap Yba.prog
  have cR4 : ∀ o1 o2 o3 o4, ((((w.alloc o1).alloc o2).alloc o3).alloc o4).cell? ⟨R, 3, none⟩ = some (.slice ao 0 cap) := fun o1 o2 o3 o4 => cell_alloc4 cR o1 o2 o3 o4
  have HU : Hid (UndAt w ((((w.alloc (.cells #[.int .u8 sender, .int .u8 0, .int .u8 0, .int .u8 0, .int .u8 0, .int .u8 0, .int .u8 0, .int .u8 0] 28)).alloc (.cells #[.int .u8 me, .int .u8 0, .int .u8 0, .int .u8 0, .int .u8 0, .int .u8 0, .int .u8 0, .int .u8 0] 28)).alloc (.map #[] 0)).alloc (.map #[] 0)) sender me [] []) := UndAt.start w sender me
  go_enter Yba.func21, Yba.ntmps21
  go_wp2_with fail
  refine wp_loop_rounds 1 ?_
  rw [rounds_succ]
  go_wp2
  go_ret
  exact ⟨rfl, HU.out.mu, HU.out.bel⟩

theorem undoneC (R base : Nat) (ms : List MC) (l : List CC) (ao : Option Addr) (cap : Nat) (sender me : Int) (w : World) (h : ResC w R base ms l ao cap) (hl : l.length ≤ 256) :
    Calls Yba.prog 21 #[.pointer (some ⟨R, 0, none⟩), hv sender, hv me] w fun e w' => e = .returned (.map (some (w.heap.size + 1 + 1))) ∧ HMap w' (w.heap.size + 1 + 1) (undC sender me l) ∧ Below w.heap.size w w' := by
  have hR : R < w.heap.size := Nat.lt_of_lt_of_le h.low h.fits
  have cR : w.cell? ⟨R, 3, none⟩ = some (.slice ao ms.length cap) := by rw [cell_of_row w R 3 _ 46 (0, 0) h.blk]; rfl
  by_cases hp : 0 < ms.length
  · obtain ⟨g, rfl, _, hg, hrow⟩ := h.row hp
    exact undoneSome R g ms.length cap sender me ms l w h.len (by rw [h.len]; exact hl) hR hg cR hrow h.says h.len
  · obtain rfl : ms = [] := List.eq_nil_of_length_eq_zero (by omega)
    obtain rfl : l = [] := List.eq_nil_of_length_eq_zero (by rw [← h.len]; rfl)
    exact undoneNone R cap ao sender me w cR

theorem chgC_cells (x k : Int) (va vr : Value) : (chgC x k va vr)[0]? = some (.int .u8 x) ∧ (chgC x k va vr)[1]? = some (.int .u8 0) ∧ (chgC x k va vr)[2]? = some (.int .u8 0) ∧ (chgC x k va vr)[3]? = some (.int .u8 0) ∧
    (chgC x k va vr)[4]? = some (.int .u8 0) ∧ (chgC x k va vr)[5]? = some (.int .u8 0) ∧ (chgC x k va vr)[6]? = some (.int .u8 0) ∧ (chgC x k va vr)[7]? = some (.int .u8 0) := ⟨rfl, rfl, rfl, rfl, rfl, rfl, rfl, rfl⟩

/-- What add makes of the changes. -/
def addC (me : Int) (l : List CC) (s : CC) : List CC :=
  if 0 < s.2.2.1.length + s.2.2.2.length ∧ (outOf (undC s.1 me l) s.2.2.1).length + (outOf (undC s.1 me l) s.2.2.2).length = 0 then l
  else l ++ [(s.1, s.2.1, outOf (undC s.1 me l) s.2.2.1, outOf (undC s.1 me l) s.2.2.2)]

theorem cell_lit' (w : World) (cs : List Value) (t : TypeId) : ∀ j u, cs[j]? = some u → (w.drew.alloc (.cells cs.toArray t)).cell? ((⟨w.heap.size, 0, none⟩ : Addr).add j) = some u := by
  intro j u hj
  have h := World.news_of_block (heap_alloc_new w.drew (.cells cs.toArray t)) j u (by simpa using hj)
  exact h

theorem step_buildSlice43 {ops : Array Oper} {o : Oper} {a : Act} {w : World} {K : Act → World → Prop} {Q : Exit → Act → World → Prop} {E : Prop} (hgd : o.guard = none) (x : Operand) (ho : o.op = .buildSlice 31 1 #[(0, x)])
    (d : Option Tmp) (hd : o.dst = d) (cs : List Value) (hx : a.eval x = .agg cs.toArray) (hl : cs.length = 29) (H : Nat) (hH : w.heap.size = H)
    (h : K (a.put d (.slice (some ⟨H, 0, none⟩) 1 1)) (w.alloc (.cells cs.toArray 43))) : if Region.wanted o (yielded ops a.tmps) = true then Oper.wp Yba.prog o a w K Q else E := by
  have hw : Region.wanted o (yielded ops a.tmps) = true := by simp [Region.wanted, hgd]
  rw [if_pos hw]
  have hrun := run_buildSlice43 cs hl w
  subst hH
  subst hd
  unfold Oper.wp execOp
  simp only [ho, List.map_toArray, List.map_cons, List.map_nil, hx, Sem.run_bind, hrun, Result.andThen_ok, Sem.run_pure]
  exact h

/-- 'step_append_lies', the slot told. -/
theorem step_append_at {P : Program} (w : World) {ops : Array Oper} {o : Oper} {a : Act} {K : Act → World → Prop} {Q : Exit → Act → World → Prop} {E : Prop} (hgd : o.guard = none) (s x : Operand) (t : TypeId)
    (ho : o.op = .call { callee := .builtin .append, args := #[s, x], argTypes := #[t, t] }) (d : Option Tmp) (hd : o.dst = d)
    (base : Nat) (e : TypeId) (i : TypeInfo) (z : Value) (size bytes : Nat) (ht : P.underlying t = some (.slice e)) (hi : P.info? e = some i) (hz : i.zero = some z)
    (hsize : i.size = size) (hby : i.bytes = bytes) (hzs : z.cells.size = size) (hsz : 0 < size)
    (v : Value) (n : Nat) (xs : List Value) (hs : a.eval s = v) (hown : w.ownsRow base e size v n xs)
    (ad : Addr) (m c : Nat) (news : List Value) (hx : a.eval x = .slice (some ad) m c) (hl : news.length = m * size) (hnews : ∀ j u, news[j]? = some u → w.cell? (ad.add j) = some u) (h1 : ∀ u ∈ news, u.oneCell' = true)
    (hm : 0 < m) (h63 : n + m ≤ maxLen) (hbytes : (n + m) * bytes ≤ 140737488355328) (hbase : base ≤ w.heap.size) (H : Nat) (hH : w.heap.size = H)
    (h : ∀ g cap w', w'.ownsRow base e size (.slice (some ⟨g, 0, none⟩) (n + m) cap) (n + m) (xs ++ news) → w.grownBy w' v.ownBlock → (v.ownBlock = some g ∨ g = H) → g < w'.heap.size → K (a.put d (.slice (some ⟨g, 0, none⟩) (n + m) cap)) w') :
    if Region.wanted o (yielded ops a.tmps) = true then Oper.wp P o a w K Q else E := by
  subst hd
  exact step_append_lies w hgd s x t ho base e i z size bytes ht hi hz hsize hby hzs hsz v n xs hs hown ad m c news hx hl hnews h1 hm h63 hbytes hbase H hH h

/-- One change more. -/
theorem ResC.push {w W w1 : World} {R base : Nat} {ms : List MC} {l : List CC} {ao : Option Addr} {c g cap : Nat} {m : MC} {s : CC} (h : ResC w R base ms l ao c) (hb : Below w.heap.size w W) (hs : Says W m s)
    (hown1 : w1.ownsRow base 43 29 (.slice (some ⟨g, 0, none⟩) (ms.length + 1) cap) (ms.length + 1) (cellsC ms ++ m.cells)) (hg : W.grownBy w1 (Value.slice ao ms.length c).ownBlock) :
    ResC (w1.setCell ⟨R, 3, none⟩ (.slice (some ⟨g, 0, none⟩) (ms.length + 1) cap)) R base (ms ++ [m]) (l ++ [s]) (some ⟨g, 0, none⟩) cap ∧ Below R w (w1.setCell ⟨R, 3, none⟩ (.slice (some ⟨g, 0, none⟩) (ms.length + 1) cap)) := by
  have hW := h.later hb
  have hR : R < W.heap.size := Nat.lt_of_lt_of_le hW.low hW.fits
  have hRw : R < w.heap.size := Nat.lt_of_lt_of_le h.low h.fits
  have hb1 : w1.heap[R]? = some (.cells #[.int .u32 0, .int .i64 0, .int .i64 0, .slice ao ms.length c] 46 (0, 0)) := by
    rw [hg.block R hR (fun e => by have := (hW.own.lt _ e.symm).1; have := h.low; omega)]
    exact hW.blk
  have hk : Keep28 W (w1.setCell ⟨R, 3, none⟩ (.slice (some ⟨g, 0, none⟩) (ms.length + 1) cap)) := ((Keep28.refl W).grown hW.own hg).setCell hb1 (by decide) _
  refine ⟨⟨?_, ?_, ?_, ?_, h.low, ?_⟩, ?_⟩
  · rw [heap_setCell_same w1 R 3 _ 46 _ hb1]
    simp
  · rw [cellsC_snoc, List.length_append]
    exact ownsRow_setCell_below hown1 h.low _
  · rw [List.length_append, List.length_append, h.len]; rfl
  · intro i m' s' hm' hs'
    by_cases hi : i < ms.length
    · rw [List.getElem?_append_left hi] at hm'
      rw [List.getElem?_append_left (by rw [← h.len]; exact hi)] at hs'
      exact (hW.says i m' s' hm' hs').keep hk
    · have hi' : i = ms.length := by
        have := (List.getElem?_eq_some_iff.1 hm').1
        simp at this; omega
      subst hi'
      have e1 : m = m' := by simpa using hm'
      have e2 : s = s' := by rw [h.len] at hs'; simpa using hs'
      subst e1; subst e2
      exact hs.keep hk
  · have := h.fits; have := hg.size; have := hb.size; simp; omega
  · refine Below.setCell (Below.grown (hb.mono (Nat.le_of_lt hRw)) hg (by have := hb.size; omega) (fun k hk => ?_)) (Nat.le_refl _) _
    have := (hW.own.lt _ hk).1; have := h.low; omega

set_option maxRecDepth 100000 in
set_option maxHeartbeats 1600000 in
theorem addWalk (R base : Nat) (ms : List MC) (l : List CC) (ao : Option Addr) (cap : Nat) (me x k : Int) (aA aR : Option Addr) (cA cR : Nat) (A Rm : List Int) (w : World) (h : ResC w R base ms l ao cap) (hl : l.length ≤ 256) (hA : A.length ≤ 256) (hRm : Rm.length ≤ 256)
    (hhA : HL w 0 aA cA A) (hhR : HL w 0 aR cR Rm) :
    Calls Yba.prog 14 #[.pointer (some ⟨R, 0, none⟩), hv me, .agg (chgC x k (.slice aA A.length cA) (.slice aR Rm.length cR)).toArray] w fun e w' => e = .returned (.tuple #[]) ∧ Below R w w' ∧ ∃ ms' ao' cap', ResC w' R base ms' (addC me l (x, k, A, Rm)) ao' cap' := by
  obtain ⟨y0, y1, y2, y3, y4, y5, y6, y7⟩ := chgC_cells x k (.slice aA A.length cA) (.slice aR Rm.length cR)
  have y26 : (chgC x k (.slice aA A.length cA) (.slice aR Rm.length cR))[26]? = some (.slice aA A.length cA) := rfl
  have y27 : (chgC x k (.slice aA A.length cA) (.slice aR Rm.length cR))[27]? = some (.slice aR Rm.length cR) := rfl
  obtain ⟨cs, hcs⟩ : ∃ cs, cs = chgC x k (.slice aA A.length cA) (.slice aR Rm.length cR) := ⟨_, rfl⟩
  have HCS : Hid (cs = chgC x k (.slice aA A.length cA) (.slice aR Rm.length cR)) := hcs
  rw [← hcs] at y0 y1 y2 y3 y4 y5 y6 y7 y26 y27
  rw [← hcs]
  clear hcs
  have hR : R < w.heap.size := Nat.lt_of_lt_of_le h.low h.fits
  have H : Hid (ResC w R base ms l ao cap) := h
  clear h
  go_enter Yba.func14, Yba.ntmps14
  go_wp2_with (go_at_call 21; refine (undoneC R base ms l ao cap x me _ ((H.out.later ((Below.refl _ _).alloc (Nat.le_refl _) _)).later ((Below.refl _ _).alloc (Nat.le_refl _) _)) hl).mono ?_; rintro e w1 ⟨rfl, hmU, hb1⟩)
  obtain ⟨U, hU⟩ : ∃ U, U = undC x me l := ⟨_, rfl⟩
  rw [← hU] at hmU
  have HU : Hid (U = undC x me l) := hU
  clear hU
  have hB1 : Below w.heap.size w w1 := (((Below.refl _ _).alloc (Nat.le_refl _) _).alloc (by simp) _).trans (hb1.mono (by simp; omega))
  have hzB : w.heap.size + 1 < w1.heap.size := by have := hb1.size; simp at this; omega
  have hblk1 : w1.heap[w.heap.size + 1]? = some (.cells cs.toArray 43 (0, 0)) := by
    rw [hb1.block _ (by simp)]
    have := heap_alloc_new (w.alloc (Obj.cells #[Value.int IntKind.u8 me, Value.int IntKind.u8 0, Value.int IntKind.u8 0, Value.int IntKind.u8 0, Value.int IntKind.u8 0, Value.int IntKind.u8 0, Value.int IntKind.u8 0, Value.int IntKind.u8 0] 28)) (.cells cs.toArray 43)
    simpa using this
  have c26 : w1.cell? ⟨w.heap.size + 1, 26, none⟩ = some (.slice aA A.length cA) := by rw [cell_of_row w1 _ 26 _ 43 (0, 0) hblk1]; simpa using y26
  have c27 : w1.cell? ⟨w.heap.size + 1, 27, none⟩ = some (.slice aR Rm.length cR) := by rw [cell_of_row w1 _ 27 _ 43 (0, 0) hblk1]; simpa using y27
  have g26 : w1.frozen? ⟨w.heap.size + 1, 26, none⟩ = false := frozen_of_blk hblk1
  have g27 : w1.frozen? ⟨w.heap.size + 1, 27, none⟩ = false := frozen_of_blk hblk1
  have HA1 : Hid (HL w1 0 aA cA A) := hhA.keep (Keep28.below hB1)
  have HR1 : Hid (HL w1 0 aR cR Rm) := hhR.keep (Keep28.below hB1)
  have HM1 : Hid (HMap w1 (w.heap.size + 1 + 1 + 1 + 1) U) := by show HMap _ _ _; have := hmU; simpa using this
  have HBLK : Hid (w1.heap[w.heap.size + 1]? = some (.cells cs.toArray 43 (0, 0))) := hblk1
  clear hmU hhA hhR hblk1 y0 y1 y2 y3 y4 y5 y6 y7 y26 y27 hb1
  obtain ⟨nA, hnA⟩ : ∃ nA, nA = A.length := ⟨_, rfl⟩
  obtain ⟨nR, hnR⟩ : ∃ nR, nR = Rm.length := ⟨_, rfl⟩
  have HNA : Hid (nA = A.length) := hnA
  have HNR : Hid (nR = Rm.length) := hnR
  rw [← hnA] at c26
  rw [← hnR] at c27
  rw [← hnA, ← hnR]
  have hA' : nA ≤ 256 := by rw [hnA]; exact hA
  have hR' : nR ≤ 256 := by rw [hnR]; exact hRm
  clear hnA hnR
  refine wp_region_P (fun w' => w'.cell? ⟨w.heap.size + 1, 26, none⟩ = some (.slice aA nA cA) ∧ w'.cell? ⟨w.heap.size + 1, 27, none⟩ = some (.slice aR nR cR)) (fun i => decide (12 ≤ i)) (by kernel_rfl) ?_
  have hS : w1.drew.cell? ⟨w.heap.size + 1, 26, none⟩ = some (.slice aA nA cA) ∧ w1.drew.cell? ⟨w.heap.size + 1, 27, none⟩ = some (.slice aR nR cR) := ⟨c26, c27⟩
  refine wpAnyP_free 0 (some 22) rfl rfl (by kernel_rfl) (by kernel_rfl) (by kernel_rfl) (fun _ _ _ h => h) (Or.inl ⟨by rfl, by intro wx _; go_simp <;> with_reducible rfl⟩) ?_
  try simp only [Act.put, List.setIfInBounds_toArray, List.set_cons_zero, List.set_cons_succ]
  refine wpAnyP_free 1 (some 23) rfl rfl (by kernel_rfl) (by kernel_rfl) (by kernel_rfl) (fun _ _ _ h => h) (Or.inl ⟨by rfl, by intro wx _; go_simp <;> with_reducible rfl⟩) ?_
  try simp only [Act.put, List.setIfInBounds_toArray, List.set_cons_zero, List.set_cons_succ]
  refine wpAnyP_take 2 (some 24) rfl rfl (by kernel_rfl) (by kernel_rfl) (by kernel_rfl) (by kernel_rfl) (fun _ _ _ h => h) hS (Or.inl ⟨by rfl, by intro wx hx; obtain ⟨x1, x2⟩ := hx; go_simp <;> with_reducible rfl⟩) ?_
  try simp only [Act.put, List.setIfInBounds_toArray, List.set_cons_zero, List.set_cons_succ]
  refine wpAnyP_free 3 (some 25) rfl rfl (by kernel_rfl) (by kernel_rfl) (by kernel_rfl) (fun _ _ _ h => h) (Or.inl ⟨by rfl, by intro wx _; go_simp <;> with_reducible rfl⟩) ?_
  try simp only [Act.put, List.setIfInBounds_toArray, List.set_cons_zero, List.set_cons_succ]
  refine wpAnyP_free 5 (some 27) rfl rfl (by kernel_rfl) (by kernel_rfl) (by kernel_rfl) (fun _ _ _ h => h) (Or.inl ⟨by rfl, by intro wx _; go_simp <;> with_reducible rfl⟩) ?_
  try simp only [Act.put, List.setIfInBounds_toArray, List.set_cons_zero, List.set_cons_succ]
  refine wpAnyP_free 6 (some 28) rfl rfl (by kernel_rfl) (by kernel_rfl) (by kernel_rfl) (fun _ _ _ h => h) (Or.inl ⟨by rfl, by intro wx _; go_simp <;> with_reducible rfl⟩) ?_
  try simp only [Act.put, List.setIfInBounds_toArray, List.set_cons_zero, List.set_cons_succ]
  refine wpAnyP_take 7 (some 29) rfl rfl (by kernel_rfl) (by kernel_rfl) (by kernel_rfl) (by kernel_rfl) (fun _ _ _ h => h) hS (Or.inl ⟨by rfl, by intro wx hx; obtain ⟨x1, x2⟩ := hx; go_simp <;> with_reducible rfl⟩) ?_
  try simp only [Act.put, List.setIfInBounds_toArray, List.set_cons_zero, List.set_cons_succ]
  refine wpAnyP_free 8 (some 30) rfl rfl (by kernel_rfl) (by kernel_rfl) (by kernel_rfl) (fun _ _ _ h => h) (Or.inl ⟨by rfl, by intro wx _; go_simp <;> with_reducible rfl⟩) ?_
  try simp only [Act.put, List.setIfInBounds_toArray, List.set_cons_zero, List.set_cons_succ]
  refine wpAnyP_one 4 rfl (by kernel_rfl) (fun KK hKK => ?_)
  go_simp
  refine (withoutC aA nA cA 0 (w.heap.size + 1 + 1 + 1 + 1) A U _ hA HNA.out (by exact HA1.out) (by exact HM1.out)).mono ?_
  rintro e w2 ⟨aA', cA', rfl, hA2, hb2⟩
  go_simp
  have hb2' : Below w1.heap.size w1 w2 := ⟨hb2.os, hb2.tape, hb2.output, hb2.size, hb2.block⟩
  refine hKK.out _ _ ⟨(hb2'.cell (by exact hzB)).trans c26, (hb2'.cell (by exact hzB)).trans c27⟩ (fun h => ?_)
  replace hS := h
  clear hKK KK
  try simp only [Act.put, List.setIfInBounds_toArray, List.set_cons_zero, List.set_cons_succ]
  refine wpAnyP_free 10 (some 32) rfl rfl (by kernel_rfl) (by kernel_rfl) (by kernel_rfl) (fun _ _ _ h => h) (Or.inl ⟨by rfl, by intro wx _; go_simp <;> with_reducible rfl⟩) ?_
  try simp only [Act.put, List.setIfInBounds_toArray, List.set_cons_zero, List.set_cons_succ]
  refine wpAnyP_free 11 (some 33) rfl rfl (by kernel_rfl) (by kernel_rfl) (by kernel_rfl) (fun _ _ _ h => h) (Or.inl ⟨by rfl, by intro wx _; go_simp <;> with_reducible rfl⟩) ?_
  try simp only [Act.put, List.setIfInBounds_toArray, List.set_cons_zero, List.set_cons_succ]
  refine wpAnyP_one 9 rfl (by kernel_rfl) (fun KK hKK => ?_)
  go_simp
  refine (withoutC aR nR cR 0 (w.heap.size + 1 + 1 + 1 + 1) Rm U _ hRm HNR.out (by exact HR1.out.keep (Keep28.below hb2')) (by exact HM1.out.keep (hb2'.block _ HM1.out.lt))).mono ?_
  rintro e w3 ⟨aR', cR', rfl, hR3, hb3⟩
  go_simp
  have hzB2 : w.heap.size + 1 < w2.heap.size := Nat.lt_of_lt_of_le hzB hb2'.size
  have e26 := (hb3.cell (p := ⟨w.heap.size + 1, 26, none⟩) hzB2).trans ((hb2'.cell (p := ⟨w.heap.size + 1, 26, none⟩) hzB).trans c26)
  have e27 := (hb3.cell (p := ⟨w.heap.size + 1, 27, none⟩) hzB2).trans ((hb2'.cell (p := ⟨w.heap.size + 1, 27, none⟩) hzB).trans c27)
  have f26 := (hb3.frozen (p := ⟨w.heap.size + 1, 26, none⟩) hzB2).trans ((hb2'.frozen (p := ⟨w.heap.size + 1, 26, none⟩) hzB).trans g26)
  have f27 := (hb3.frozen (p := ⟨w.heap.size + 1, 27, none⟩) hzB2).trans ((hb2'.frozen (p := ⟨w.heap.size + 1, 27, none⟩) hzB).trans g27)
  refine hKK.out _ _ ⟨e26, e27⟩ (fun h => ?_)
  replace hS := h
  clear hKK KK
  try simp only [Act.put, List.setIfInBounds_toArray, List.set_cons_zero, List.set_cons_succ]
  refine wpAnyP_tail 12 rfl (by kernel_rfl) rfl (fun KK hKK => ?_)
  go_simp
  refine hKK.out _ _ ?_
  clear hKK KK
  try simp only [Act.put, List.setIfInBounds_toArray, List.set_cons_zero, List.set_cons_succ]
  refine wpAnyP_free 13 (some 34) rfl rfl (by kernel_rfl) (by kernel_rfl) (by kernel_rfl) (fun _ _ _ h => h) (Or.inl ⟨by rfl, by intro wx _; go_simp <;> with_reducible rfl⟩) ?_
  try simp only [Act.put, List.setIfInBounds_toArray, List.set_cons_zero, List.set_cons_succ]
  refine wpAnyP_free 14 (some 35) rfl rfl (by kernel_rfl) (by kernel_rfl) (by kernel_rfl) (fun _ _ _ h => h) (Or.inl ⟨by rfl, by intro wx _; go_simp <;> with_reducible rfl⟩) ?_
  try simp only [Act.put, List.setIfInBounds_toArray, List.set_cons_zero, List.set_cons_succ]
  refine wpAnyP_tail 15 rfl (by kernel_rfl) rfl (fun KK hKK => ?_)
  go_simp
  refine hKK.out _ _ ?_
  clear hKK KK
  try simp only [Act.put, List.setIfInBounds_toArray, List.set_cons_zero, List.set_cons_succ]
  refine wpAnyP_done (by kernel_rfl) (NoPanic.normal ?_) _
  obtain ⟨W4, hW4⟩ : ∃ W, W = (w3.setCell ⟨w.heap.size + 1, 26, none⟩ (.slice aA' (outOf U A).length cA')).setCell ⟨w.heap.size + 1, 27, none⟩ (.slice aR' (outOf U Rm).length cR') := ⟨_, rfl⟩
  rw [← hW4]
  have hB3 : Below w.heap.size w w3 := (hB1.trans (hb2'.mono hB1.size)).trans (hb3.mono (Nat.le_trans hB1.size hb2'.size))
  have hB4 : Below w.heap.size w W4 := by rw [hW4]; exact (hB3.setCell (by simp) _).setCell (by simp) _
  have hblk3 : w3.heap[w.heap.size + 1]? = some (.cells cs.toArray 43 (0, 0)) := (hb3.block _ hzB2).trans ((hb2'.block _ hzB).trans HBLK.out)
  obtain ⟨cs', hcs'⟩ : ∃ cs', cs' = chgC x k (.slice aA' (outOf U A).length cA') (.slice aR' (outOf U Rm).length cR') := ⟨_, rfl⟩
  have hblk4 : W4.heap[w.heap.size + 1]? = some (.cells cs'.toArray 43 (0, 0)) := by
    rw [hW4, heap_setCell_same _ _ 27 _ 43 _ (heap_setCell_same w3 _ 26 _ 43 _ hblk3), hcs', HCS.out]
    rfl
  have hk4 : Keep28 w3 W4 := by rw [hW4]; exact ((Keep28.refl w3).setCell hblk3 (by decide) _).setCell (heap_setCell_same w3 _ 26 _ 43 _ hblk3) (by decide) _
  have HSY : Hid (Says W4 (x, k, .slice aA' (outOf U A).length cA', .slice aR' (outOf U Rm).length cR') (x, k, outOf U A, outOf U Rm)) :=
    ⟨rfl, rfl, ⟨aA', cA', rfl, (hA2.keep ((Keep28.below hb3).trans hk4)).zero⟩, ⟨aR', cR', rfl, (hR3.keep hk4).zero⟩, Nat.le_trans (outOf_length U A) hA, Nat.le_trans (outOf_length U Rm) hRm⟩
  have c26' : W4.cell? ⟨w.heap.size + 1, 26, none⟩ = some (.slice aA' (outOf U A).length cA') := by rw [cell_of_row W4 _ 26 _ 43 (0, 0) hblk4, hcs']; rfl
  have c27' : W4.cell? ⟨w.heap.size + 1, 27, none⟩ = some (.slice aR' (outOf U Rm).length cR') := by rw [cell_of_row W4 _ 27 _ 43 (0, 0) hblk4, hcs']; rfl
  have HRes4 : Hid (ResC W4 R base ms l ao cap) := H.out.later hB4
  have HRG : Hid (W4.rangeAt (w.heap.size + 1) 0 cs') := fun j v hv => by rw [cell_of_row W4 _ _ _ 43 (0, 0) hblk4]; simpa using hv
  have HCS' : Hid (cs' = chgC x k (.slice aA' (outOf U A).length cA') (.slice aR' (outOf U Rm).length cR')) := hcs'
  have HLEN : Hid (cs'.length = 29) := by rw [hcs']; rfl
  have HONE : Hid (∀ u ∈ cs', u.oneCell' = true) := by rw [hcs']; exact HSY.out.one
  obtain ⟨oA, hoA⟩ : ∃ oA, oA = (outOf U A).length := ⟨_, rfl⟩
  obtain ⟨oR, hoR⟩ : ∃ oR, oR = (outOf U Rm).length := ⟨_, rfl⟩
  have HOA : Hid (oA = (outOf U A).length) := hoA
  have HOR : Hid (oR = (outOf U Rm).length) := hoR
  rw [← hoA] at c26'
  rw [← hoR] at c27'
  have hoA' : oA ≤ 256 := by rw [hoA]; exact Nat.le_trans (outOf_length U A) hA
  have hoR' : oR ≤ 256 := by rw [hoR]; exact Nat.le_trans (outOf_length U Rm) hRm
  have cR4 : W4.cell? ⟨R, 3, none⟩ = some (.slice ao ms.length cap) := by rw [cell_of_row W4 R 3 _ 46 (0, 0) HRes4.out.blk]; rfl
  have fR4 : W4.frozen? ⟨R, 3, none⟩ = false := frozen_of_blk HRes4.out.blk
  have hz4 := hB4.size
  have HADD : Hid (addC me l (x, k, A, Rm) = if 0 < nA + nR ∧ oA + oR = 0 then l else l ++ [(x, k, outOf U A, outOf U Rm)]) := by
    simp only [Hid, addC]; rw [← HU.out, HNA.out, HNR.out, hoA, hoR]
  clear hW4 hS e26 e27 f26 f27 c26 c27 g26 g27 hA2 hR3 hb2 hb3 hb2' hblk3 hblk4 hk4 hcs' hoA hoR hB1 hB3
  obtain ⟨n, hn⟩ : ∃ n, n = ms.length := ⟨_, rfl⟩
  rw [← hn] at cR4
  have HN : Hid (n = ms.length) := hn
  have hn' : n ≤ 256 := by rw [hn, H.out.len]; exact hl
  have HOWN : Hid (W4.ownsRow base 43 29 (.slice ao n cap) n (cellsC ms)) := by rw [hn]; exact HRes4.out.own
  have hlow := H.out.low
  have hfit : base ≤ W4.heap.size := HRes4.out.fits
  have hnb : (Value.slice ao n cap).ownBlock ≠ some (w.heap.size + 1) := fun e => by rw [hn] at e; have := (H.out.own.lt _ e).2; omega
  clear hn
  obtain ⟨i0, hi, hz⟩ := Option.map_eq_some_iff.1 Yba.info43
  simp only [Prod.mk.injEq] at hz
  obtain ⟨hz0, hz1, hz2⟩ := hz
  obtain ⟨z, hz0, hzs⟩ := Option.map_eq_some_iff.1 hz0
  by_cases hP1 : 0 < nA + nR
  · by_cases hP2 : oA + oR = 0
    · obtain rfl : oA = 0 := by omega
      obtain rfl : oR = 0 := by omega
      have hq1 : decide ((0 : Int) < (nA : Int) + (nR : Int)) = true := by simp; omega
      have HE : Hid (addC me l (x, k, A, Rm) = l) := by show _ = _; rw [HADD.out, if_pos ⟨hP1, hP2⟩]
      clear hP2
      go_wp2
      exact bodyPost_ret (v := .tuple #[]) (by simp [results, Yba.results14]) rfl ⟨rfl, hB4.mono (Nat.le_of_lt hR), ms, ao, cap, by rw [HE.out]; exact HRes4.out⟩
    · have hq1 : decide ((0 : Int) < (nA : Int) + (nR : Int)) = true := by simp; omega
      have hq2 : (((oA : Int) + (oR : Int)) == 0) = false := by simp; omega
      have HE : Hid (addC me l (x, k, A, Rm) = l ++ [(x, k, outOf U A, outOf U Rm)]) := by show _ = _; rw [HADD.out, if_neg (fun h => hP2 h.2)]
      clear hP1 hP2
      go_wp2_with fail
      refine wp_region_P (fun w' => w'.cell? ⟨R, 3, none⟩ = some (.slice ao n cap) ∧ w'.rangeAt (w.heap.size + 1) 0 cs') (fun i => decide (8 ≤ i)) (by kernel_rfl) ?_
      have hS : W4.drew.cell? ⟨R, 3, none⟩ = some (.slice ao n cap) ∧ W4.drew.rangeAt (w.heap.size + 1) 0 cs' := ⟨cR4, HRG.out⟩
      refine wpAnyP_free 0 (some 50) rfl rfl (by kernel_rfl) (by kernel_rfl) (by kernel_rfl) (fun _ _ _ h => h) (Or.inl ⟨by rfl, by intro wx _; go_simp <;> with_reducible rfl⟩) ?_
      try simp only [Act.put, List.setIfInBounds_toArray, List.set_cons_zero, List.set_cons_succ]
      refine wpAnyP_free 1 (some 51) rfl rfl (by kernel_rfl) (by kernel_rfl) (by kernel_rfl) (fun _ _ _ h => h) (Or.inl ⟨by rfl, by intro wx _; go_simp <;> with_reducible rfl⟩) ?_
      try simp only [Act.put, List.setIfInBounds_toArray, List.set_cons_zero, List.set_cons_succ]
      refine wpAnyP_free 2 (some 52) rfl rfl (by kernel_rfl) (by kernel_rfl) (by kernel_rfl) (fun _ _ _ h => h) (Or.inl ⟨by rfl, by intro wx _; go_simp <;> with_reducible rfl⟩) ?_
      try simp only [Act.put, List.setIfInBounds_toArray, List.set_cons_zero, List.set_cons_succ]
      refine wpAnyP_free 3 (some 53) rfl rfl (by kernel_rfl) (by kernel_rfl) (by kernel_rfl) (fun _ _ _ h => h) (Or.inl ⟨by rfl, by intro wx _; go_simp <;> with_reducible rfl⟩) ?_
      try simp only [Act.put, List.setIfInBounds_toArray, List.set_cons_zero, List.set_cons_succ]
      refine wpAnyP_take 4 (some 54) rfl rfl (by kernel_rfl) (by kernel_rfl) (by kernel_rfl) (by kernel_rfl) (fun _ _ _ h => h) hS (Or.inl ⟨by rfl, by intro wx hx; obtain ⟨x1, x2⟩ := hx; go_simp <;> with_reducible rfl⟩) ?_
      try simp only [Act.put, List.setIfInBounds_toArray, List.set_cons_zero, List.set_cons_succ]
      refine wpAnyP_take 5 (some 55) rfl rfl (by kernel_rfl) (by kernel_rfl) (by kernel_rfl) (by kernel_rfl) (fun _ _ _ h => h) hS (yieldsIf_load_mid (by rfl) 43 (.tmp 5) rfl (w.heap.size + 1) 0 rfl cs' _ (fun _ hw => hw.2) Yba.underlying43 rfl (by rw [size43, HLEN.out])) ?_
      try simp only [Act.put, List.setIfInBounds_toArray, List.set_cons_zero, List.set_cons_succ]
      refine wpAnyP_one 6 rfl (by kernel_rfl) (fun KK hKK => ?_)
      refine step_buildSlice43 (by rfl) (.tmp 55) (by rfl) (some 56) (by rfl) cs' (by rfl) HLEN.out W4.heap.size (by simp) ?_
      refine hKK.out _ _ ⟨cell_alloc1 (w := W4.drew) cR4 _, fun j v hv => cell_alloc1 (w := W4.drew) (HRG.out j v hv) _⟩ (fun h => ?_)
      replace hS := h
      clear hKK KK
      try simp only [Act.put, List.setIfInBounds_toArray, List.set_cons_zero, List.set_cons_succ]
      refine wpAnyP_one 7 rfl (by kernel_rfl) (fun KK hKK => ?_)
      refine step_append_at _ (by rfl) (.tmp 54) (.tmp 56) _ (by rfl) (some 57) (by rfl) base 43 i0 z 29 160 Yba.underlying31 hi hz0 hz1 hz2 hzs (by omega) (.slice ao n cap) n (cellsC ms) (by rfl) (by exact HOWN.out.drew.alloc _) ⟨W4.heap.size, 0, none⟩ 1 1 cs' (by rfl) (by exact HLEN.out) (by exact cell_lit' W4 cs' 43) HONE.out (by omega) (by unfold maxLen; omega) (by omega) (by simp; omega) (W4.heap.size + 1) (by simp) ?_
      intro g cap' w5 hown5 hgrow hat hlt
      have e1 : w5.cell? ⟨R, 3, none⟩ = some (.slice ao n cap) := hgrow.cell (cell_alloc1 (w := W4.drew) cR4 _) (fun e => by have := (HOWN.out.lt R e.symm).1; have := hlow; omega)
      have f1 : w5.frozen? ⟨R, 3, none⟩ = false := by rw [hgrow.frozen_far _ (by simp; omega) (fun e => by have := (HOWN.out.lt R e.symm).1; have := hlow; omega)]; exact (World.frozen?_alloc_old W4.drew _ _ (by show R ≠ W4.heap.size; omega)).trans fR4
      have e2 : w5.rangeAt (w.heap.size + 1) 0 cs' := fun j v hv => hgrow.cell (cell_alloc1 (w := W4.drew) (HRG.out j v hv) _) (fun e => hnb (e.symm))
      refine hKK.out _ _ ⟨e1, e2⟩ (fun h => ?_)
      replace hS := h
      clear hKK KK
      try simp only [Act.put, List.setIfInBounds_toArray, List.set_cons_zero, List.set_cons_succ]
      refine wpAnyP_free 8 (some 58) rfl rfl (by kernel_rfl) (by kernel_rfl) (by kernel_rfl) (fun _ _ _ h => h) (Or.inl ⟨by rfl, by intro wx _; go_simp <;> with_reducible rfl⟩) ?_
      try simp only [Act.put, List.setIfInBounds_toArray, List.set_cons_zero, List.set_cons_succ]
      refine wpAnyP_free 9 (some 59) rfl rfl (by kernel_rfl) (by kernel_rfl) (by kernel_rfl) (fun _ _ _ h => h) (Or.inl ⟨by rfl, by intro wx _; go_simp <;> with_reducible rfl⟩) ?_
      try simp only [Act.put, List.setIfInBounds_toArray, List.set_cons_zero, List.set_cons_succ]
      refine wpAnyP_tail 10 rfl (by kernel_rfl) rfl (fun KK hKK => ?_)
      go_simp
      refine hKK.out _ _ ?_
      clear hKK KK
      try simp only [Act.put, List.setIfInBounds_toArray, List.set_cons_zero, List.set_cons_succ]
      refine wpAnyP_done (by kernel_rfl) (NoPanic.normal ?_) _
      have RS := ResC.push (W := W4.drew.alloc (.cells cs'.toArray 43)) (m := (x, k, .slice aA' (outOf U A).length cA', .slice aR' (outOf U Rm).length cR')) (s := (x, k, outOf U A, outOf U Rm)) H.out (hB4.drew.alloc hz4 _) (HSY.out.keep (Keep28.below ((Below.refl W4.heap.size W4).drew.alloc (Nat.le_refl _) _))) (g := g) (cap := cap') (c := cap) (by rw [← HN.out]; show World.ownsRow _ _ _ _ _ _ (cellsC ms ++ MC.cells _); have e : MC.cells (x, k, .slice aA' (outOf U A).length cA', .slice aR' (outOf U Rm).length cR') = cs' := HCS'.out.symm; rw [e]; exact hown5) (by rw [← HN.out]; exact hgrow)
      rw [← HN.out, ← HE.out] at RS
      have HRS : Hid (_ ∧ _) := RS
      clear RS hS e1 e2 f1 hown5 hgrow
      go_wp2
      go_end0
      exact ⟨rfl, HRS.out.2, _, _, _, HRS.out.1⟩
  · have hq1 : decide ((0 : Int) < (nA : Int) + (nR : Int)) = false := by simp; omega
    have HE : Hid (addC me l (x, k, A, Rm) = l ++ [(x, k, outOf U A, outOf U Rm)]) := by show _ = _; rw [HADD.out, if_neg (fun h => hP1 h.1)]
    clear hP1
    go_wp2_with fail
    refine wp_region_P (fun w' => w'.cell? ⟨R, 3, none⟩ = some (.slice ao n cap) ∧ w'.rangeAt (w.heap.size + 1) 0 cs') (fun i => decide (8 ≤ i)) (by kernel_rfl) ?_
    have hS : W4.drew.cell? ⟨R, 3, none⟩ = some (.slice ao n cap) ∧ W4.drew.rangeAt (w.heap.size + 1) 0 cs' := ⟨cR4, HRG.out⟩
    refine wpAnyP_free 0 (some 50) rfl rfl (by kernel_rfl) (by kernel_rfl) (by kernel_rfl) (fun _ _ _ h => h) (Or.inl ⟨by rfl, by intro wx _; go_simp <;> with_reducible rfl⟩) ?_
    try simp only [Act.put, List.setIfInBounds_toArray, List.set_cons_zero, List.set_cons_succ]
    refine wpAnyP_free 1 (some 51) rfl rfl (by kernel_rfl) (by kernel_rfl) (by kernel_rfl) (fun _ _ _ h => h) (Or.inl ⟨by rfl, by intro wx _; go_simp <;> with_reducible rfl⟩) ?_
    try simp only [Act.put, List.setIfInBounds_toArray, List.set_cons_zero, List.set_cons_succ]
    refine wpAnyP_free 2 (some 52) rfl rfl (by kernel_rfl) (by kernel_rfl) (by kernel_rfl) (fun _ _ _ h => h) (Or.inl ⟨by rfl, by intro wx _; go_simp <;> with_reducible rfl⟩) ?_
    try simp only [Act.put, List.setIfInBounds_toArray, List.set_cons_zero, List.set_cons_succ]
    refine wpAnyP_free 3 (some 53) rfl rfl (by kernel_rfl) (by kernel_rfl) (by kernel_rfl) (fun _ _ _ h => h) (Or.inl ⟨by rfl, by intro wx _; go_simp <;> with_reducible rfl⟩) ?_
    try simp only [Act.put, List.setIfInBounds_toArray, List.set_cons_zero, List.set_cons_succ]
    refine wpAnyP_take 4 (some 54) rfl rfl (by kernel_rfl) (by kernel_rfl) (by kernel_rfl) (by kernel_rfl) (fun _ _ _ h => h) hS (Or.inl ⟨by rfl, by intro wx hx; obtain ⟨x1, x2⟩ := hx; go_simp <;> with_reducible rfl⟩) ?_
    try simp only [Act.put, List.setIfInBounds_toArray, List.set_cons_zero, List.set_cons_succ]
    refine wpAnyP_take 5 (some 55) rfl rfl (by kernel_rfl) (by kernel_rfl) (by kernel_rfl) (by kernel_rfl) (fun _ _ _ h => h) hS (yieldsIf_load_mid (by rfl) 43 (.tmp 5) rfl (w.heap.size + 1) 0 rfl cs' _ (fun _ hw => hw.2) Yba.underlying43 rfl (by rw [size43, HLEN.out])) ?_
    try simp only [Act.put, List.setIfInBounds_toArray, List.set_cons_zero, List.set_cons_succ]
    refine wpAnyP_one 6 rfl (by kernel_rfl) (fun KK hKK => ?_)
    refine step_buildSlice43 (by rfl) (.tmp 55) (by rfl) (some 56) (by rfl) cs' (by rfl) HLEN.out W4.heap.size (by simp) ?_
    refine hKK.out _ _ ⟨cell_alloc1 (w := W4.drew) cR4 _, fun j v hv => cell_alloc1 (w := W4.drew) (HRG.out j v hv) _⟩ (fun h => ?_)
    replace hS := h
    clear hKK KK
    try simp only [Act.put, List.setIfInBounds_toArray, List.set_cons_zero, List.set_cons_succ]
    refine wpAnyP_one 7 rfl (by kernel_rfl) (fun KK hKK => ?_)
    refine step_append_at _ (by rfl) (.tmp 54) (.tmp 56) _ (by rfl) (some 57) (by rfl) base 43 i0 z 29 160 Yba.underlying31 hi hz0 hz1 hz2 hzs (by omega) (.slice ao n cap) n (cellsC ms) (by rfl) (by exact HOWN.out.drew.alloc _) ⟨W4.heap.size, 0, none⟩ 1 1 cs' (by rfl) (by exact HLEN.out) (by exact cell_lit' W4 cs' 43) HONE.out (by omega) (by unfold maxLen; omega) (by omega) (by simp; omega) (W4.heap.size + 1) (by simp) ?_
    intro g cap' w5 hown5 hgrow hat hlt
    have e1 : w5.cell? ⟨R, 3, none⟩ = some (.slice ao n cap) := hgrow.cell (cell_alloc1 (w := W4.drew) cR4 _) (fun e => by have := (HOWN.out.lt R e.symm).1; have := hlow; omega)
    have f1 : w5.frozen? ⟨R, 3, none⟩ = false := by rw [hgrow.frozen_far _ (by simp; omega) (fun e => by have := (HOWN.out.lt R e.symm).1; have := hlow; omega)]; exact (World.frozen?_alloc_old W4.drew _ _ (by show R ≠ W4.heap.size; omega)).trans fR4
    have e2 : w5.rangeAt (w.heap.size + 1) 0 cs' := fun j v hv => hgrow.cell (cell_alloc1 (w := W4.drew) (HRG.out j v hv) _) (fun e => hnb (e.symm))
    refine hKK.out _ _ ⟨e1, e2⟩ (fun h => ?_)
    replace hS := h
    clear hKK KK
    try simp only [Act.put, List.setIfInBounds_toArray, List.set_cons_zero, List.set_cons_succ]
    refine wpAnyP_free 8 (some 58) rfl rfl (by kernel_rfl) (by kernel_rfl) (by kernel_rfl) (fun _ _ _ h => h) (Or.inl ⟨by rfl, by intro wx _; go_simp <;> with_reducible rfl⟩) ?_
    try simp only [Act.put, List.setIfInBounds_toArray, List.set_cons_zero, List.set_cons_succ]
    refine wpAnyP_free 9 (some 59) rfl rfl (by kernel_rfl) (by kernel_rfl) (by kernel_rfl) (fun _ _ _ h => h) (Or.inl ⟨by rfl, by intro wx _; go_simp <;> with_reducible rfl⟩) ?_
    try simp only [Act.put, List.setIfInBounds_toArray, List.set_cons_zero, List.set_cons_succ]
    refine wpAnyP_tail 10 rfl (by kernel_rfl) rfl (fun KK hKK => ?_)
    go_simp
    refine hKK.out _ _ ?_
    clear hKK KK
    try simp only [Act.put, List.setIfInBounds_toArray, List.set_cons_zero, List.set_cons_succ]
    refine wpAnyP_done (by kernel_rfl) (NoPanic.normal ?_) _
    have RS := ResC.push (W := W4.drew.alloc (.cells cs'.toArray 43)) (m := (x, k, .slice aA' (outOf U A).length cA', .slice aR' (outOf U Rm).length cR')) (s := (x, k, outOf U A, outOf U Rm)) H.out (hB4.drew.alloc hz4 _) (HSY.out.keep (Keep28.below ((Below.refl W4.heap.size W4).drew.alloc (Nat.le_refl _) _))) (g := g) (cap := cap') (c := cap) (by rw [← HN.out]; show World.ownsRow _ _ _ _ _ _ (cellsC ms ++ MC.cells _); have e : MC.cells (x, k, .slice aA' (outOf U A).length cA', .slice aR' (outOf U Rm).length cR') = cs' := HCS'.out.symm; rw [e]; exact hown5) (by rw [← HN.out]; exact hgrow)
    rw [← HN.out, ← HE.out] at RS
    have HRS : Hid (_ ∧ _) := RS
    clear RS hS e1 e2 f1 hown5 hgrow
    go_wp2
    go_end0
    exact ⟨rfl, HRS.out.2, _, _, _, HRS.out.1⟩
end Go.Proofs.Ybulkamho
