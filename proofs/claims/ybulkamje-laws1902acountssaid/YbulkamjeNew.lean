import Derived.Test.YbulkamjeBuilt
import Derived.Test.YbulkamjeMakes
import Derived.Test.YbulkamjeState
import Derived.Deep.CutRange
namespace Go.Proofs.Ybulkamje
open Go.RowKit Go.Maps Go.Sort Go.Shelf
set_option linter.unusedSimpArgs false

theorem cellOfOwn {w : World} {base g n c : Nat} {vs : List Value} (h : w.ownsRow base 9 1 (.slice (some ⟨g, 0, none⟩) n c) n vs) (j : Nat) (hj : j < n) : w.cell? ⟨g, j, none⟩ = vs[j]? := by
  have := World.ownsRow.cellAt h j (by omega)
  simpa using this

/-- A group's struct. -/
structure NG (w : World) (G : Nat) (cs : Array Value) : Prop where
  h : w.heap[G]? = some (.cells cs 57 (0, 0))
  sz : cs.size = 43
theorem NG.cell {w : World} {G : Nat} {cs : Array Value} (h : NG w G cs) (o : Nat) (ho : o < 43) : w.cell? ⟨G, o, none⟩ = some (cs.getD o undef) := by
  rw [cell_of_row w G o _ 57 (0, 0) h.h, Array.getD_eq_getD_getElem?]
  have : o < cs.size := by rw [h.sz]; exact ho
  rw [Array.getElem?_eq_getElem this]; rfl
theorem NG.lt {w : World} {G : Nat} {cs : Array Value} (h : NG w G cs) : G < w.heap.size := (Array.getElem?_eq_some_iff.1 h.h).1
theorem NG.fz {w : World} {G : Nat} {cs : Array Value} (h : NG w G cs) (o : Nat) : w.frozen? ⟨G, o, none⟩ = false := by simp [World.frozen?, h.h]
theorem NG.set {w : World} {G : Nat} {cs : Array Value} (h : NG w G cs) (o : Nat) (v : Value) : NG (w.setCell ⟨G, o, none⟩ v) G (cs.setIfInBounds o v) := ⟨heap_setCell_row h.h v, by rw [Array.size_setIfInBounds]; exact h.sz⟩
theorem NG.alloc {w : World} {G : Nat} {cs : Array Value} (h : NG w G cs) (o : Obj) : NG (w.alloc o) G cs := ⟨(Below.heap_alloc _ _ _ h.lt).trans h.h, h.sz⟩
theorem NG.away {w w' : World} {G lo hi : Nat} {cs : Array Value} (h : NG w G cs) (ha : Away lo hi w w') (ho : G < lo ∨ hi ≤ G) : NG w' G cs := ⟨(ha.block G h.lt ho).trans h.h, h.sz⟩
theorem size_setCell (w : World) (a : Addr) (v : Value) : (w.setCell a v).heap.size = w.heap.size := by simp [World.setCell]

/-- The world behind 'g.f = make(..)'. -/
def stW (W : World) (G o S n : Nat) (row : Array Value) (T : TypeId) : World := (W.setCell ⟨G, o, none⟩ (.slice (some ⟨S, 0, none⟩) n n)).alloc (.cells row T)
theorem st_keep (W : World) (G o S n : Nat) (row : Array Value) (T : TypeId) (k : Nat) (hk : k < W.heap.size) (hne : k ≠ G) : (stW W G o S n row T).heap[k]? = W.heap[k]? := by
  unfold stW
  rw [Below.heap_alloc _ _ _ (by rw [size_setCell]; exact hk)]
  exact heap_setCell_ne _ hne
theorem st_new (W : World) (G o S n : Nat) (row : Array Value) (T : TypeId) (hS : W.heap.size = S) : (stW W G o S n row T).heap[S]? = some (.cells row T (0, 0)) := by
  unfold stW
  have h := heap_alloc_new (W.setCell ⟨G, o, none⟩ (.slice (some ⟨S, 0, none⟩) n n)) (.cells row T)
  rw [size_setCell, hS] at h
  exact h
theorem st_size (W : World) (G o S n : Nat) (row : Array Value) (T : TypeId) (hS : W.heap.size = S) : (stW W G o S n row T).heap.size = S + 1 := by
  unfold stW
  simp [size_setCell, hS]
theorem st_below {W w1 : World} {B : Nat} (h : Below B w1 W) (G o S n : Nat) (row : Array Value) (T : TypeId) (hB : B ≤ G) (hG : G < W.heap.size) : Below B w1 (stW W G o S n row T) := by
  unfold stW
  exact (h.setCell (p := ⟨G, o, none⟩) hB _).alloc (by rw [size_setCell]; omega) _
theorem st_ng {W : World} {G : Nat} {cs : Array Value} (h : NG W G cs) (o S n : Nat) (row : Array Value) (T : TypeId) : NG (stW W G o S n row T) G (cs.setIfInBounds o (.slice (some ⟨S, 0, none⟩) n n)) := (h.set o _).alloc _

theorem st_row (W : World) (b o S n : Nat) (row : Array Value) (T : TypeId) {cs : Array Value} {T' : TypeId} (h : W.heap[b]? = some (.cells cs T' (0, 0))) : (stW W b o S n row T).heap[b]? = some (.cells (cs.setIfInBounds o (.slice (some ⟨S, 0, none⟩) n n)) T' (0, 0)) := by
  unfold stW
  rw [Below.heap_alloc _ _ _ (by rw [size_setCell]; exact (Array.getElem?_eq_some_iff.1 h).1)]
  exact heap_setCell_row h _
/-- The row of acks, filled so far. -/
def akV (S n m : Nat) : Nat → Value := fun j => if j < m then .slice (some ⟨S + j, 0, none⟩) n n else .slice none 0 0
theorem akV_step (S n m : Nat) : updV (akV S n m) m (.slice (some ⟨S + m, 0, none⟩) n n) = akV S n (m + 1) := by
  funext j
  simp only [updV, akV]
  by_cases h : j = m
  · subst h; simp
  · have : (j < m + 1) = (j < m) := by simp; omega
    simp only [if_neg h, this]

theorem swapW (W : World) (a : Addr) (v : Value) (o : Obj) (h : a.block < W.heap.size) : (W.alloc o).setCell a v = (W.setCell a v).alloc o := by
  unfold World.setCell World.alloc
  simp only
  congr 1
  apply Array.ext_getElem?
  intro i
  simp only [Array.getElem?_modify, Array.getElem?_push, Array.size_modify]
  by_cases h1 : i = W.heap.size
  · subst h1
    rw [if_neg (by omega)]
    simp
  · by_cases h2 : a.block = i
    · subst h2; simp [Nat.ne_of_lt h]
    · simp [h1, h2]

theorem rowV_congr (n : Nat) (V V' : Nat → Value) (h : ∀ j, j < n → V j = V' j) : rowV n V = rowV n V' := by
  unfold rowV
  congr 1
  exact List.map_congr_left (fun j hj => h j (by simpa using hj))
theorem wpList_box {ops : Array Oper} {rest : List Oper} {o : Oper} {a : Act} {w : World} {Q : Exit → Act → World → Prop} (hgd : o.guard = none) (t : TypeId) (x : Operand) (ho : o.op = .box t x) (cs : Array Value) (hx : a.eval x = .agg cs)
    (h : wpList Yba.prog ops Q rest (a.put o.dst (.pointer (some ⟨w.heap.size, 0, none⟩))) (w.alloc (.cells cs t))) : wpList Yba.prog ops Q (o :: rest) a w := by
  refine wpList_plain hgd fun K hK => ?_
  have hrun : (Instr.box t (.agg cs)).run Yba.prog w = .ok (.pointer (some ⟨w.heap.size, 0, none⟩)) (w.alloc (.cells cs t)) := rfl
  unfold Oper.wp
  simp [execOp, ho, hx, hrun, Result.andThen]
  exact hK _ _ h

set_option maxRecDepth 100000 in
set_option maxHeartbeats 3200000 in
theorem newGroupC (nm : ByteArray) (n b c : Nat) (w : World) (hn1 : 1 ≤ n) (hn4 : n ≤ 4) (hb : b < w.heap.size) (hm : ∀ j, j < n → w.cell? ⟨b, j, none⟩ = some (.string (mem j))) :
    Calls Yba.prog 24 #[.string nm, .int .u64 0, .slice (some ⟨b, 0, none⟩) n c, .string ⟨#[97]⟩] w fun e w' => ∃ s : Shape, e = .returned (.pointer (some ⟨s.G, 0, none⟩)) ∧ s.n = n ∧ s.lo = w.heap.size ∧ s.hi = w'.heap.size ∧ Grp w' s (fun _ => 0) (fun _ => 0) (fun _ _ => 0) ∧
      w'.cell? ⟨s.G, 0, none⟩ = some (.string nm) ∧ (∀ j, j < n → w'.cell? ⟨s.ms, j, none⟩ = some (.string (mem j))) ∧ (∃ cs, NG w' s.G cs) ∧ Below w.heap.size w w' := by
  have HV := (callsIn_wide (n := 4)).1 (valuesF Fence.wide 4 trivial rfl (some ⟨b, 0, none⟩) n c w)
  have hB0 : Below w.heap.size w (w.alloc (.cells #[.slice (some ⟨b, 0, none⟩) n c] 28)) := (Below.refl _ w).alloc (Nat.le_refl _) _
  have hbox : (w.alloc (.cells #[.slice (some ⟨b, 0, none⟩) n c] 28)).cell? ⟨w.heap.size, 0, none⟩ = some (.slice (some ⟨b, 0, none⟩) n c) := by
    rw [cell_of_row _ w.heap.size 0 _ 28 (0, 0) (heap_alloc_new _ _)]; rfl
  have HS := sortedF w.heap.size b 0 c (memL n) (by rw [memL_length]; omega) (by rw [memL_length]; omega) (w.alloc (.cells #[.slice (some ⟨b, 0, none⟩) n c] 28)) (by simp) (by simp; omega) (by rw [memL_length]; exact hbox)
    (fun j hj => by rw [memL_length] at hj; rw [memL_at n j hj, Nat.zero_add]; exact (hB0.cell (p := ⟨b, j, none⟩) hb).trans (hm j hj))
  rw [memL_sorted n hn4, memL_length] at HS
  clear hbox hm
  go_enter Yba.func24, Yba.ntmps24
  go_upto_region 2 with (first
    | (go_at_call 34; refine HV.mono ?_; rintro e w1 ⟨rfl, rfl⟩)
    | (go_at_call 21; refine HS.mono ?_; rintro e w1 ⟨ms, cm, rfl, hrow, hb1⟩))
  have hmsl : ms < w1.heap.size := by
    rcases hrow.2 with ⟨h0, _⟩ | ⟨g, cap, cur, hv, _, hg, _⟩
    · cases h0
    · simp at hv; obtain ⟨rfl, _⟩ := hv; exact (Array.getElem?_eq_some_iff.1 hg).1
  have hmem : ∀ j, j < n → w1.cell? ⟨ms, j, none⟩ = some (.string (mem j)) := fun j hj => by
    rw [cellOfOwn hrow j hj]
    have := memL_at n j hj
    rw [← this]
    simp [memL, hj]
  have HMEM : Hid (∀ j, j < n → w1.cell? ⟨ms, j, none⟩ = some (.string (mem j))) := hmem
  have HBel : Hid (Below w.heap.size w w1) := hB0.trans (hb1.mono (by simp))
  have hszw : w.heap.size < w1.heap.size := by have := hb1.size; simp at this; omega
  clear hmem HS HV hrow hb1 hB0
  obtain ⟨G, hG⟩ : ∃ G, w1.heap.size = G := ⟨_, rfl⟩
  obtain ⟨cs, hbt, hsz, k0, k2⟩ := builtG nm (some ⟨ms, 0, none⟩) n cm
  have HBT : Hid (Yba.prog.built 57 [(0, .string nm), (2, .slice (some ⟨ms, 0, none⟩) n cm), (7, .int .u64 0)] = some cs) := hbt
  have HK0 : Hid (cs[0]? = some (.string nm)) := k0
  have HK2 : Hid (cs[2]? = some (.slice (some ⟨ms, 0, none⟩) n cm)) := k2
  have HSZ : Hid (cs.size = 43) := hsz
  clear hbt k0 k2 hsz
  have HN2 : Hid (NG (w1.alloc (.cells cs 57)) G cs) := ⟨by rw [← hG]; exact heap_alloc_new _ _, HSZ.out⟩
  have HA1 : Hid (Below w1.heap.size w1 (w1.alloc (.cells cs 57))) := (Below.refl _ _).alloc (Nat.le_refl _) _
  have hs2 : (w1.alloc (.cells cs 57)).heap.size = G + 1 := by simp [hG]
  go_wp2_with (refine wpList_build57 rfl (.tmp 14) (.tmp 15) (.tmp 16) rfl _ _ _ rfl rfl rfl cs HBT.out ?_; simp only [Act.put, List.setIfInBounds_toArray, List.set_cons_zero, List.set_cons_succ]; refine wpList_box rfl 57 (.tmp 17) rfl cs rfl ?_; simp only [Act.put, List.setIfInBounds_toArray, List.set_cons_zero, List.set_cons_succ, hG]; generalize w1.alloc (.cells cs 57) = w2 at *; clear HBT)
  have HMEM2 : Hid (∀ j, j < n → w2.cell? ⟨ms, j, none⟩ = some (.string (mem j))) := fun j hj => (HA1.out.cell (p := ⟨ms, j, none⟩) hmsl).trans (HMEM.out j hj)
  have hc2 : w2.cell? ⟨G, 2, none⟩ = some (.slice (some ⟨ms, 0, none⟩) n cm) := by rw [cell_of_row w2 G 2 _ 57 (0, 0) HN2.out.h]; exact HK2.out
  refine (placeC G ms cm n w2 hn1 hn4 hc2 HMEM2.out).mono ?_
  rintro e w3 ⟨rfl, q0, rfl⟩
  have HN3 : Hid (NG (w2.drewN q0) G cs) := ⟨HN2.out.h, HN2.out.sz⟩
  have HA3 : Hid (Below w1.heap.size w1 (w2.drewN q0)) := HA1.out.trans ⟨rfl, rfl, rfl, Nat.le_refl _, fun _ _ => rfl⟩
  have hs3 : (w2.drewN q0).heap.size = G + 1 := hs2
  clear hc2 HMEM2 HN2 HA1 hs2
  generalize w2.drewN q0 = w3 at *
  have q1 := HN3.out.cell 1 (by omega)
  have q2 := HN3.out.fz 1
  have q3 := HN3.out.lt
  go_upto_region 4 with fail
  have HN4 : Hid (NG (w3.setCell ⟨G, 1, none⟩ (.int .i64 0)) G (cs.setIfInBounds 1 (.int .i64 0))) := HN3.out.set 1 _
  have HA4 : Hid (Below w1.heap.size w1 (w3.setCell ⟨G, 1, none⟩ (.int .i64 0))) := HA3.out.setCell (p := ⟨G, 1, none⟩) (by rw [hG]; exact Nat.le_refl _) _
  have hs4 : (w3.setCell ⟨G, 1, none⟩ (.int .i64 0)).heap.size = G + 1 := by rw [size_setCell]; exact hs3
  clear q1 q2 q3 hs3 HN3 HA3
  generalize w3.setCell ⟨G, 1, none⟩ (.int .i64 0) = w4 at *
  have hmk44 := mk44 n (by omega)
  have hmk43 := mk43 n (by omega)
  have hmk45 := mk45 n (by omega)
  have q1 := HN4.out.cell 10 (by omega)
  have q2 := HN4.out.fz 10
  have q3 := HN4.out.lt
  go_upto_region 5 with fail
  have eW : (w4.setCell ⟨G, 10, none⟩ (.slice (some ⟨G + 1, 0, none⟩) n n)).alloc (.cells (rowV n fun _ => .slice none 0 0) 59) = stW w4 G 10 (G + 1) n (rowV n fun _ => .slice none 0 0) 59 := rfl
  rw [eW]
  clear eW
  have HN5 := st_ng HN4.out 10 (G + 1) n (rowV n fun _ => .slice none 0 0) 59
  have HN5 : Hid _ := HN5
  have HA5 : Hid (Below w1.heap.size w1 (stW w4 G 10 (G + 1) n (rowV n fun _ => .slice none 0 0) 59)) := st_below HA4.out G 10 (G + 1) n (rowV n fun _ => .slice none 0 0) 59 (by omega) q3
  have hs5 := st_size w4 G 10 (G + 1) n (rowV n fun _ => .slice none 0 0) 59 hs4
  have HR10 : Hid _ := st_new w4 G 10 (G + 1) n (rowV n fun _ => .slice none 0 0) 59 hs4
  generalize stW w4 G 10 (G + 1) n (rowV n fun _ => .slice none 0 0) 59 = w5 at *
  clear q1 q2 q3 HN4 HA4 hs4
  have q1 := HN5.out.cell 11 (by omega)
  have q2 := HN5.out.fz 11
  have q3 := HN5.out.lt
  go_upto_region 6 with fail
  have eW : (w5.setCell ⟨G, 11, none⟩ (.slice (some ⟨G + 1 + 1, 0, none⟩) n n)).alloc (.cells (rowV n fun _ => .int .u64 0) 25) = stW w5 G 11 (G + 1 + 1) n (rowV n fun _ => .int .u64 0) 25 := rfl
  rw [eW]
  clear eW
  have HN6 := st_ng HN5.out 11 (G + 1 + 1) n (rowV n fun _ => .int .u64 0) 25
  have HN6 : Hid _ := HN6
  have HA6 : Hid (Below w1.heap.size w1 (stW w5 G 11 (G + 1 + 1) n (rowV n fun _ => .int .u64 0) 25)) := st_below HA5.out G 11 (G + 1 + 1) n (rowV n fun _ => .int .u64 0) 25 (by omega) q3
  have hs6 := st_size w5 G 11 (G + 1 + 1) n (rowV n fun _ => .int .u64 0) 25 hs5
  have HR11 : Hid _ := st_new w5 G 11 (G + 1 + 1) n (rowV n fun _ => .int .u64 0) 25 hs5
  have HR10 : Hid _ := (st_keep w5 G 11 (G + 1 + 1) n (rowV n fun _ => .int .u64 0) 25 (G + 1) (by omega) (by omega)).trans HR10.out
  generalize stW w5 G 11 (G + 1 + 1) n (rowV n fun _ => .int .u64 0) 25 = w6 at *
  clear q1 q2 q3 HN5 HA5 hs5
  have q1 := HN6.out.cell 14 (by omega)
  have q2 := HN6.out.fz 14
  have q3 := HN6.out.lt
  go_upto_region 7 with fail
  have eW : (w6.setCell ⟨G, 14, none⟩ (.slice (some ⟨G + 1 + 1 + 1, 0, none⟩) n n)).alloc (.cells (rowV n fun _ => .slice none 0 0) 43) = stW w6 G 14 (G + 1 + 1 + 1) n (rowV n fun _ => .slice none 0 0) 43 := rfl
  rw [eW]
  clear eW
  have HN7 := st_ng HN6.out 14 (G + 1 + 1 + 1) n (rowV n fun _ => .slice none 0 0) 43
  have HN7 : Hid _ := HN7
  have HA7 : Hid (Below w1.heap.size w1 (stW w6 G 14 (G + 1 + 1 + 1) n (rowV n fun _ => .slice none 0 0) 43)) := st_below HA6.out G 14 (G + 1 + 1 + 1) n (rowV n fun _ => .slice none 0 0) 43 (by omega) q3
  have hs7 := st_size w6 G 14 (G + 1 + 1 + 1) n (rowV n fun _ => .slice none 0 0) 43 hs6
  have HR14 : Hid _ := st_new w6 G 14 (G + 1 + 1 + 1) n (rowV n fun _ => .slice none 0 0) 43 hs6
  have HR10 : Hid _ := (st_keep w6 G 14 (G + 1 + 1 + 1) n (rowV n fun _ => .slice none 0 0) 43 (G + 1) (by omega) (by omega)).trans HR10.out
  have HR11 : Hid _ := (st_keep w6 G 14 (G + 1 + 1 + 1) n (rowV n fun _ => .slice none 0 0) 43 (G + 1 + 1) (by omega) (by omega)).trans HR11.out
  generalize stW w6 G 14 (G + 1 + 1 + 1) n (rowV n fun _ => .slice none 0 0) 43 = w7 at *
  clear q1 q2 q3 HN6 HA6 hs6
  have c14 : w7.cell? ⟨G, 14, none⟩ = some (.slice (some ⟨G + 1 + 1 + 1, 0, none⟩) n n) := by
    rw [cell_of_row w7 G 14 _ 57 (0, 0) HN7.out.h, Array.getElem?_setIfInBounds_self_of_lt (by simp [HSZ.out])]
  have q3 := HN7.out.lt
  go_wp2_with fail
  go_loopg [51] n (fun g i wr => ∃ m : Nat, g = n - m ∧ m ≤ n ∧ i = .int .i64 m ∧ wr.heap.size = G + 1 + 1 + 1 + 1 + m ∧ Away (G + 1 + 1 + 1) (G + 1 + 1 + 1 + 1) w7 wr ∧
    wr.heap[G + 1 + 1 + 1]? = some (.cells (rowV n (akV (G + 1 + 1 + 1 + 1) n m)) 43 (0, 0)) ∧ ∀ j, j < m → wr.heap[G + 1 + 1 + 1 + 1 + j]? = some (.cells (rowV n fun _ => .int .u64 0) 25 (0, 0)))
  case atStart => exact ⟨0, rfl, Nat.zero_le _, rfl, hs7, Away.refl _ _ _, HR14.out, fun j hj => by omega⟩
  case round =>
    obtain ⟨m, rfl, hm, rfl, hsr, haw, hrow, hacks⟩ := hrel
    have HAW : Hid (Away (G + 1 + 1 + 1) (G + 1 + 1 + 1 + 1) w7 wr) := haw
    have HROW : Hid (wr.heap[G + 1 + 1 + 1]? = some (.cells (rowV n (akV (G + 1 + 1 + 1 + 1) n m)) 43 (0, 0))) := hrow
    have HACK : Hid (∀ j, j < m → wr.heap[G + 1 + 1 + 1 + 1 + j]? = some (.cells (rowV n fun _ => .int .u64 0) 25 (0, 0))) := hacks
    have d14 : wr.cell? ⟨G, 14, none⟩ = some (.slice (some ⟨G + 1 + 1 + 1, 0, none⟩) n n) := (haw.cell (p := ⟨G, 14, none⟩) q3 (.inl (by show G < _; omega))).trans c14
    clear haw hrow hacks c14
    by_cases hlt : m < n
    · have r1 : wr.cell? ⟨G + 1 + 1 + 1, m, none⟩ = some (akV (G + 1 + 1 + 1 + 1) n m m) := by rw [cell_of_row wr (G + 1 + 1 + 1) m _ 43 (0, 0) HROW.out, rowV_at _ _ m hlt]
      have r2 : wr.frozen? ⟨G + 1 + 1 + 1, m, none⟩ = false := by simp [World.frozen?, HROW.out]
      generalize akV (G + 1 + 1 + 1 + 1) n m m = av at *
      have hi0 : (0 : Int) ≤ (m : Int) := by omega
      have hi1 : (m : Int) < (n : Int) := by omega
      have hGl : G < wr.heap.size := by omega
      have hakl : G + 1 + 1 + 1 < wr.heap.size := by omega
      have al1 : ∀ o : Obj, (wr.alloc o).cell? ⟨G, 14, none⟩ = some (.slice (some ⟨G + 1 + 1 + 1, 0, none⟩) n n) := fun o => (World.cell?_of_block (w := wr) (a := ⟨G, 14, none⟩) (Below.heap_alloc _ _ _ hGl)).trans d14
      have al2 : ∀ o : Obj, (wr.alloc o).cell? ⟨G + 1 + 1 + 1, m, none⟩ = some av := fun o => (World.cell?_of_block (w := wr) (a := ⟨G + 1 + 1 + 1, m, none⟩) (Below.heap_alloc _ _ _ hakl)).trans r1
      have al3 : ∀ o : Obj, (wr.alloc o).frozen? ⟨G + 1 + 1 + 1, m, none⟩ = false := fun o => (World.frozen?_of_block (w := wr) (a := ⟨G + 1 + 1 + 1, m, none⟩) (Below.heap_alloc _ _ _ hakl)).trans r2
      go_upto_region 10 with fail
      go_region
      have eW : ((wr.alloc (.cells (rowV n fun _ => .int .u64 0) 25)).setCell ⟨G + 1 + 1 + 1, m, none⟩ (.slice (some ⟨G + 1 + 1 + 1 + 1 + m, 0, none⟩) n n)).drew = (stW wr (G + 1 + 1 + 1) m (G + 1 + 1 + 1 + 1 + m) n (rowV n fun _ => .int .u64 0) 25).drew := by
        rw [swapW _ _ _ _ (by show G + 1 + 1 + 1 < _; omega)]; rfl
      rw [eW]
      clear eW al1 al2 al3
      have f1 : Hid ((stW wr (G + 1 + 1 + 1) m (G + 1 + 1 + 1 + 1 + m) n (rowV n fun _ => .int .u64 0) 25).drew.heap.size = G + 1 + 1 + 1 + 1 + (m + 1)) := st_size wr _ m _ n _ 25 hsr
      have f2 : Hid (Away (G + 1 + 1 + 1) (G + 1 + 1 + 1 + 1) w7 (stW wr (G + 1 + 1 + 1) m (G + 1 + 1 + 1 + 1 + m) n (rowV n fun _ => .int .u64 0) 25).drew) := ((HAW.out.setCell (p := ⟨G + 1 + 1 + 1, m, none⟩) (Nat.le_refl _) (by show G + 1 + 1 + 1 < _; omega) _).alloc _).drew
      have f3 : Hid ((stW wr (G + 1 + 1 + 1) m (G + 1 + 1 + 1 + 1 + m) n (rowV n fun _ => .int .u64 0) 25).drew.heap[G + 1 + 1 + 1]? = some (.cells (rowV n (akV (G + 1 + 1 + 1 + 1) n (m + 1))) 43 (0, 0))) := by
        have h := st_row wr (G + 1 + 1 + 1) m (G + 1 + 1 + 1 + 1 + m) n (rowV n fun _ => .int .u64 0) 25 HROW.out
        rw [rowV_set, akV_step] at h
        exact h
      have f4 : Hid (∀ j, j < m + 1 → (stW wr (G + 1 + 1 + 1) m (G + 1 + 1 + 1 + 1 + m) n (rowV n fun _ => .int .u64 0) 25).drew.heap[G + 1 + 1 + 1 + 1 + j]? = some (.cells (rowV n fun _ => .int .u64 0) 25 (0, 0))) := fun j hj => by
        by_cases e : j = m
        · subst e; exact st_new wr _ j _ n _ 25 hsr
        · exact (st_keep wr _ m _ n _ 25 (G + 1 + 1 + 1 + 1 + j) (by omega) (by omega)).trans (HACK.out j (by omega))
      generalize (stW wr (G + 1 + 1 + 1) m (G + 1 + 1 + 1 + 1 + m) n (rowV n fun _ => .int .u64 0) 25).drew = wz at *
      clear r1 r2 d14 hGl hakl
      go_wp2_with fail
      go_roundg (n - (m + 1))
      case measure => omega
      case rel => exact ⟨m + 1, rfl, by omega, by go_num, f1.out, f2.out, f3.out, f4.out⟩
    · obtain rfl : m = n := by omega
      have HN8 : Hid _ := HN7.out.away HAW.out (.inl (by omega))
      have HA8 : Hid (Below w1.heap.size w1 wr) := HA7.out.trans ((HAW.out.below (by omega) (by omega)).mono (by omega))
      have HR10 : Hid _ := (HAW.out.block (G + 1) (by omega) (.inl (by omega))).trans HR10.out
      have HR11 : Hid _ := (HAW.out.block (G + 1 + 1) (by omega) (.inl (by omega))).trans HR11.out
      clear HN7 HA7 hs7 HAW d14 q3 HR14
      obtain ⟨S, hS⟩ : ∃ S, G + 1 + 1 + 1 + 1 + m = S := ⟨_, rfl⟩
      have HSE : Hid (G + 1 + 1 + 1 + 1 + m = S) := hS
      have hs8 : wr.heap.size = S := hsr.trans hS
      have hGS : G < S := by omega
      clear hsr hS
      have q1 := HN8.out.cell 20 (by omega)
      have q2 := HN8.out.fz 20
      have q3 := HN8.out.lt
      go_upto_region 13 with fail
      have eW : (wr.setCell ⟨G, 20, none⟩ (.slice (some ⟨S, 0, none⟩) m m)).alloc (.cells (rowV m fun _ => .int .u64 0) 25) = stW wr G 20 (S) m (rowV m fun _ => .int .u64 0) 25 := rfl
      rw [eW]
      clear eW
      have HN9 := st_ng HN8.out 20 (S) m (rowV m fun _ => .int .u64 0) 25
      have HN9 : Hid _ := HN9
      have HA9 : Hid (Below w1.heap.size w1 (stW wr G 20 (S) m (rowV m fun _ => .int .u64 0) 25)) := st_below HA8.out G 20 (S) m (rowV m fun _ => .int .u64 0) 25 (by omega) q3
      have hs9 := st_size wr G 20 (S) m (rowV m fun _ => .int .u64 0) 25 hs8
      have HR10 : Hid _ := (st_keep wr G 20 (S) m (rowV m fun _ => .int .u64 0) 25 (G + 1) (by have := HSE.out; omega) (by omega)).trans HR10.out
      have HR11 : Hid _ := (st_keep wr G 20 (S) m (rowV m fun _ => .int .u64 0) 25 (G + 1 + 1) (by have := HSE.out; omega) (by omega)).trans HR11.out
      have HROW : Hid _ := (st_keep wr G 20 (S) m (rowV m fun _ => .int .u64 0) 25 (G + 1 + 1 + 1) (by have := HSE.out; omega) (by omega)).trans HROW.out
      have HACK : Hid (∀ j, j < m → (stW wr G 20 (S) m (rowV m fun _ => .int .u64 0) 25).heap[G + 1 + 1 + 1 + 1 + j]? = some (.cells (rowV m fun _ => .int .u64 0) 25 (0, 0))) := fun j hj => (st_keep wr G 20 (S) m (rowV m fun _ => .int .u64 0) 25 (G + 1 + 1 + 1 + 1 + j) (by have := HSE.out; omega) (by omega)).trans (HACK.out j hj)
      generalize stW wr G 20 (S) m (rowV m fun _ => .int .u64 0) 25 = w9 at *
      clear q1 q2 q3 HN8 HA8 hs8
      have q1 := HN9.out.cell 21 (by omega)
      have q2 := HN9.out.fz 21
      have q3 := HN9.out.lt
      go_upto_region 14 with fail
      have eW : (w9.setCell ⟨G, 21, none⟩ (.slice (some ⟨S + 1, 0, none⟩) m m)).alloc (.cells (rowV m fun _ => .int .u64 0) 25) = stW w9 G 21 (S + 1) m (rowV m fun _ => .int .u64 0) 25 := rfl
      rw [eW]
      clear eW
      have HN10 := st_ng HN9.out 21 (S + 1) m (rowV m fun _ => .int .u64 0) 25
      have HN10 : Hid _ := HN10
      have HA10 : Hid (Below w1.heap.size w1 (stW w9 G 21 (S + 1) m (rowV m fun _ => .int .u64 0) 25)) := st_below HA9.out G 21 (S + 1) m (rowV m fun _ => .int .u64 0) 25 (by omega) q3
      have hs10 := st_size w9 G 21 (S + 1) m (rowV m fun _ => .int .u64 0) 25 hs9
      have HR10 : Hid _ := (st_keep w9 G 21 (S + 1) m (rowV m fun _ => .int .u64 0) 25 (G + 1) (by have := HSE.out; omega) (by omega)).trans HR10.out
      have HR11 : Hid _ := (st_keep w9 G 21 (S + 1) m (rowV m fun _ => .int .u64 0) 25 (G + 1 + 1) (by have := HSE.out; omega) (by omega)).trans HR11.out
      have HROW : Hid _ := (st_keep w9 G 21 (S + 1) m (rowV m fun _ => .int .u64 0) 25 (G + 1 + 1 + 1) (by have := HSE.out; omega) (by omega)).trans HROW.out
      have HACK : Hid (∀ j, j < m → (stW w9 G 21 (S + 1) m (rowV m fun _ => .int .u64 0) 25).heap[G + 1 + 1 + 1 + 1 + j]? = some (.cells (rowV m fun _ => .int .u64 0) 25 (0, 0))) := fun j hj => (st_keep w9 G 21 (S + 1) m (rowV m fun _ => .int .u64 0) 25 (G + 1 + 1 + 1 + 1 + j) (by have := HSE.out; omega) (by omega)).trans (HACK.out j hj)
      generalize stW w9 G 21 (S + 1) m (rowV m fun _ => .int .u64 0) 25 = w10 at *
      clear q1 q2 q3 HN9 HA9 hs9
      obtain ⟨S2, hS2⟩ : ∃ S2, S + 1 + 1 = S2 := ⟨_, rfl⟩
      have HS2 : Hid (S + 1 + 1 = S2) := hS2
      rw [hS2] at hs10
      have hGS2 : G < S2 := by omega
      clear hS2
      have q1 := HN10.out.cell 32 (by omega)
      have q2 := HN10.out.fz 32
      have q3 := HN10.out.lt
      go_upto_region 16 with fail
      have eW : (w10.setCell ⟨G, 32, none⟩ (.slice (some ⟨S2, 0, none⟩) m m)).alloc (.cells (rowV m fun _ => .slice none 0 0) 43) = stW w10 G 32 (S2) m (rowV m fun _ => .slice none 0 0) 43 := rfl
      rw [eW]
      clear eW
      have HN11 := st_ng HN10.out 32 (S2) m (rowV m fun _ => .slice none 0 0) 43
      have HN11 : Hid _ := HN11
      have HA11 : Hid (Below w1.heap.size w1 (stW w10 G 32 (S2) m (rowV m fun _ => .slice none 0 0) 43)) := st_below HA10.out G 32 (S2) m (rowV m fun _ => .slice none 0 0) 43 (by omega) q3
      have hs11 := st_size w10 G 32 (S2) m (rowV m fun _ => .slice none 0 0) 43 hs10
      have HR10 : Hid _ := (st_keep w10 G 32 (S2) m (rowV m fun _ => .slice none 0 0) 43 (G + 1) (by have := HSE.out; have := HS2.out; omega) (by omega)).trans HR10.out
      have HR11 : Hid _ := (st_keep w10 G 32 (S2) m (rowV m fun _ => .slice none 0 0) 43 (G + 1 + 1) (by have := HSE.out; have := HS2.out; omega) (by omega)).trans HR11.out
      have HROW : Hid _ := (st_keep w10 G 32 (S2) m (rowV m fun _ => .slice none 0 0) 43 (G + 1 + 1 + 1) (by have := HSE.out; have := HS2.out; omega) (by omega)).trans HROW.out
      have HACK : Hid (∀ j, j < m → (stW w10 G 32 (S2) m (rowV m fun _ => .slice none 0 0) 43).heap[G + 1 + 1 + 1 + 1 + j]? = some (.cells (rowV m fun _ => .int .u64 0) 25 (0, 0))) := fun j hj => (st_keep w10 G 32 (S2) m (rowV m fun _ => .slice none 0 0) 43 (G + 1 + 1 + 1 + 1 + j) (by have := HSE.out; have := HS2.out; omega) (by omega)).trans (HACK.out j hj)
      generalize stW w10 G 32 (S2) m (rowV m fun _ => .slice none 0 0) 43 = w11 at *
      clear q1 q2 q3 HN10 HA10 hs10
      go_wp2_with fail
      go_ret
      have e := HSE.out
      have e2 := HS2.out
      have hsz := HSZ.out
      refine ⟨⟨m, G, ms, cm, G + 1, G + 1 + 1, G + 1 + 1 + 1, w.heap.size, w11.heap.size, fun j => G + 1 + 1 + 1 + 1 + j⟩, rfl, rfl, rfl, rfl, ⟨⟨_, HN11.out.h, ?_, ?_, ?_, ?_, ?_⟩, ⟨fun _ => .slice none 0 0, HR10.out, fun p hp => ⟨none, rfl⟩⟩, HR11.out, ?_, fun j hj => HACK.out j hj, fun j j' _ _ h => by simp only at h; omega, fun j _ => by simp only; omega, hn1, hn4, by simp only; omega, by simp only; omega, by simp only; omega, by simp only; omega, fun j hj => by simp only at hj ⊢; omega⟩, ?_, fun j hj => (HA11.out.cell (p := ⟨ms, j, none⟩) hmsl).trans (HMEM.out j hj), ⟨_, HN11.out⟩, HBel.out.trans (HA11.out.mono (by omega))⟩
      · simp [hsz]
      · simp only; rw [← HK2.out]; simp
      · simp [hsz]
      · simp [hsz]
      · simp [hsz]
      · rw [HROW.out]
        congr 2
        exact rowV_congr _ _ _ (fun j hj => by simp [akV, hj])
      · rw [cell_of_row w11 G 0 _ 57 (0, 0) HN11.out.h, ← HK0.out]; simp
end Go.Proofs.Ybulkamje
