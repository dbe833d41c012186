import Derived.Test.YbulkamhoEq
import Derived.Deep.DeepCutAuto
import Derived.Deep.QuietTactic
import Derived.BigQuiet
import Derived.Deep.RegionHeld3
import Derived.Deep.DrawnRows
import Derived.Test.YbulkamhoHeldTail
import Derived.Deep.AppendLies
import Derived.Deep.MidRow
namespace Go.Proofs.Ybulkamho
open Go.RowKit
set_option linter.unusedSimpArgs false
attribute [local go_sem ↓] Go.wp_at_zero Go.wp_at_succ

theorem Yba.info43 : (Yba.prog.info? 43).map (fun i => (i.zero.map (·.cells.size), i.size, i.bytes)) = some (some 29, 29, 160) := by kernel_rfl

set_option maxHeartbeats 400000 in
theorem handleA (x : Int) (w : World) (h0 : 0 ≤ x) (h1 : x ≤ 255) :
    Calls Yba.prog 9 #[.int .u8 x] w fun e w' => e = .returned (.agg #[.int .u8 (x % 3), .int .u8 0, .int .u8 0, .int .u8 0, .int .u8 0, .int .u8 0, .int .u8 0, .int .u8 0]) ∧ w' = (w.alloc (.cells #[.int .u8 (x % 3), .int .u8 0, .int .u8 0, .int .u8 0, .int .u8 0, .int .u8 0, .int .u8 0, .int .u8 0] 28)).alloc (.cells #[.int .u8 (x % 3), .int .u8 0, .int .u8 0, .int .u8 0, .int .u8 0, .int .u8 0, .int .u8 0, .int .u8 0] 28) := by
  go_enter Yba.func9, Yba.ntmps9
  go_wp2
  exact bodyPost_ret (v := .agg #[.int .u8 (x % 3), .int .u8 0, .int .u8 0, .int .u8 0, .int .u8 0, .int .u8 0, .int .u8 0, .int .u8 0]) (by simp [results, Yba.results9, go_sem]) rfl ⟨rfl, rfl⟩

/-- The 29 cells of a change: its sender's handle, an empty body but for keyID and prevID. -/
def chg (x k p : Int) : List Value :=
  [.int .u8 x, .int .u8 0, .int .u8 0, .int .u8 0, .int .u8 0, .int .u8 0, .int .u8 0, .int .u8 0,
   .int .u8 0, .int .u8 0, .int .u8 0, .int .u8 0, .int .u8 0, .int .u8 0, .int .u8 0, .int .u8 0, .int .u8 0, .int .u8 0, .int .u8 0, .int .u8 0, .int .u8 0,
   .slice none 0 0, .slice none 0 0, .int .u32 k, .int .u32 p, .bool false, .slice none 0 0, .slice none 0 0, .slice none 0 0]
theorem chg_one (x k p : Int) : ∀ u ∈ chg x k p, u.oneCell' = true := by
  intro u hu
  simp only [chg, List.mem_cons, List.not_mem_nil, or_false] at hu
  rcases hu with rfl | rfl | rfl | rfl | rfl | rfl | rfl | rfl | rfl | rfl | rfl | rfl | rfl | rfl | rfl | rfl | rfl | rfl | rfl | rfl | rfl | rfl | rfl | rfl | rfl | rfl | rfl | rfl | rfl <;> rfl

/-- A change as three numbers. -/
def cells3 (l : List (Int × Int × Int)) : List Value := l.flatMap fun c => chg c.1 c.2.1 c.2.2
theorem cells3_length (l : List (Int × Int × Int)) : (cells3 l).length = l.length * 29 := by
  induction l with
  | nil => rfl
  | cons c l ih => simp only [cells3, List.flatMap_cons, List.length_append] at ih ⊢; rw [ih]; simp [chg]; omega
theorem cells3_snoc (l : List (Int × Int × Int)) (c : Int × Int × Int) : cells3 (l ++ [c]) = cells3 l ++ chg c.1 c.2.1 c.2.2 := by simp [cells3]

/-- What is known of the plain changes that came in. -/
def CRow (B : Nat) (w : World) (a : Option Addr) (len : Nat) (S K : Nat → Int) : Prop :=
  0 < len → ∃ b off, a = some ⟨b, off, none⟩ ∧ b < B ∧ ∀ i, i < len → w.cell? ⟨b, off + i * 2, none⟩ = some (.int .u8 (S i)) ∧ w.cell? ⟨b, off + i * 2 + 1, none⟩ = some (.int .u32 (K i)) ∧ 0 ≤ S i ∧ S i ≤ 255 ∧ 0 ≤ K i ∧ K i < 4294967296

/-- The changes that are built of them. -/
def built (S K : Nat → Int) (n : Nat) : List (Int × Int × Int) := (List.range n).map fun i => (S i % 3, K i, (i : Int))
theorem built_succ (S K : Nat → Int) (n : Nat) : built S K (n + 1) = built S K n ++ [(S n % 3, K n, (n : Int))] := by simp [built, List.range_succ]
theorem built_length (S K : Nat → Int) (n : Nat) : (built S K n).length = n := by simp [built]

/-- A resumption in memory: its block, its four cells; its changes, owned from base on. -/
structure Resu (w : World) (R base : Nat) (latest sent read : Int) (l : List (Int × Int × Int)) (ao : Option Addr) (cap : Nat) : Prop where
  blk : w.heap[R]? = some (.cells #[.int .u32 latest, .int .i64 sent, .int .i64 read, .slice ao l.length cap] 46 (0, 0))
  own : w.ownsRow base 43 29 (.slice ao l.length cap) l.length (cells3 l)
  low : R < base
  fits : base ≤ w.heap.size

theorem cell_alloc1 {w : World} {a : Addr} {v : Value} (h : w.cell? a = some v) (o : Obj) : (w.alloc o).cell? a = some v :=
  (World.cell?_of_block (w := w) (by rw [Below.heap_alloc w o _ (World.block_lt_of_cell? w a h)])).trans h
theorem cell_alloc3 {w : World} {a : Addr} {v : Value} (h : w.cell? a = some v) (o1 o2 o3 : Obj) : (((w.alloc o1).alloc o2).alloc o3).cell? a = some v := cell_alloc1 (cell_alloc1 (cell_alloc1 h o1) o2) o3
theorem cell_alloc4 {w : World} {a : Addr} {v : Value} (h : w.cell? a = some v) (o1 o2 o3 o4 : Obj) : ((((w.alloc o1).alloc o2).alloc o3).alloc o4).cell? a = some v := cell_alloc1 (cell_alloc3 h o1 o2 o3) o4

theorem news4 (w : World) (o1 o2 o3 : Obj) (cs : List Value) (t : TypeId) : ∀ j u, cs[j]? = some u → ((((w.alloc o1).alloc o2).alloc o3).alloc (.cells cs.toArray t)).drew.cell? ((⟨w.heap.size + 3, 0, none⟩ : Addr).add j) = some u := by
  intro j u hj
  have e : (((w.alloc o1).alloc o2).alloc o3).heap.size = w.heap.size + 3 := by simp
  have h := World.news_of_block (heap_alloc_new (((w.alloc o1).alloc o2).alloc o3) (.cells cs.toArray t)) j u (by simpa using hj)
  rw [e] at h
  exact h

theorem wrapU32 (x : Int) (h0 : 0 ≤ x) (h1 : x < 4294967296) : IntKind.u32.wrap x = x := by
  simp [IntKind.wrap_u32]; omega

/-- What an append behind four new blocks leaves of older cells. -/
theorem app_old {w w1 : World} {v : Value} {base : Nat} {e : TypeId} {size n : Nat} {xs : List Value} {o1 o2 o3 o4 : Obj} (hown : w.ownsRow base e size v n xs) (hg : ((((w.alloc o1).alloc o2).alloc o3).alloc o4).drew.grownBy w1 v.ownBlock)
    {a : Addr} {u : Value} (h : w.cell? a = some u) (hb : a.block < base) : w1.cell? a = some u :=
  hg.cell (cell_alloc4 h o1 o2 o3 o4) (fun e => by have := (hown.lt _ e.symm).1; omega)
theorem app_oldf {w w1 : World} {v : Value} {base : Nat} {e : TypeId} {size n : Nat} {xs : List Value} {o1 o2 o3 o4 : Obj} (hown : w.ownsRow base e size v n xs) (hg : ((((w.alloc o1).alloc o2).alloc o3).alloc o4).drew.grownBy w1 v.ownBlock)
    {a : Addr} (hlt : a.block < w.heap.size) (h : w.frozen? a = false) (hb : a.block < base) : w1.frozen? a = false := by
  rw [hg.frozen_far a (by simp; omega) (fun e => by have := (hown.lt _ e.symm).1; omega)]
  show ((((w.alloc o1).alloc o2).alloc o3).alloc o4).frozen? a = false
  rw [World.frozen?_alloc_old _ _ _ (by simp; omega), World.frozen?_alloc_old _ _ _ (by simp; omega), World.frozen?_alloc_old _ _ _ (by simp; omega), World.frozen?_alloc_old _ _ _ (by omega)]
  exact h
/-- .. and of the first of the four. -/
theorem app_new {w w1 : World} {v : Value} {base : Nat} {e : TypeId} {size n : Nat} {xs : List Value} {cs : Array Value} {t : TypeId} {o2 o3 o4 : Obj} (hown : w.ownsRow base e size v n xs) (hg : ((((w.alloc (.cells cs t)).alloc o2).alloc o3).alloc o4).drew.grownBy w1 v.ownBlock)
    {j : Nat} {u : Value} (h : cs[j]? = some u) : w1.cell? ⟨w.heap.size, j, none⟩ = some u :=
  hg.cell (cell_alloc3 (by rw [World.cell?_alloc_at _ _ _ _ rfl]; exact h) o2 o3 o4) (fun e => by have := (hown.lt _ e.symm).2; simp at this)

/-- One change more: what the round's append and store make of the resumption. -/
theorem Resu.step {w0 w w1 : World} {R B base : Nat} {latest sent read : Int} {l : List (Int × Int × Int)} {ao : Option Addr} {c g cap : Nat} {x k p : Int} {o1 o2 o3 o4 : Obj} (h : Resu w R base latest sent read l ao c) (hbel : Below B w0 w) (hB : B ≤ R)
    (hown1 : w1.ownsRow base 43 29 (.slice (some ⟨g, 0, none⟩) (l.length + 1) cap) (l.length + 1) (cells3 l ++ chg x k p))
    (hg : ((((w.alloc o1).alloc o2).alloc o3).alloc o4).drew.grownBy w1 (Value.slice ao l.length c).ownBlock) :
    Resu (w1.setCell ⟨R, 3, none⟩ (.slice (some ⟨g, 0, none⟩) (l.length + 1) cap)) R base latest sent read (l ++ [(x, k, p)]) (some ⟨g, 0, none⟩) cap ∧ Below B w0 (w1.setCell ⟨R, 3, none⟩ (.slice (some ⟨g, 0, none⟩) (l.length + 1) cap)) := by
  have hR : R < w.heap.size := Nat.lt_of_lt_of_le h.low h.fits
  have hb1 : w1.heap[R]? = some (.cells #[.int .u32 latest, .int .i64 sent, .int .i64 read, .slice ao l.length c] 46 (0, 0)) := by
    rw [hg.block R (by simp; omega) (fun e => by have := (h.own.lt _ e.symm).1; have := h.low; omega)]
    show ((((w.alloc o1).alloc o2).alloc o3).alloc o4).heap[R]? = _
    rw [Below.heap_alloc _ _ _ (by simp; omega), Below.heap_alloc _ _ _ (by simp; omega), Below.heap_alloc _ _ _ (by simp; omega), Below.heap_alloc _ _ _ hR]
    exact h.blk
  have hsz : w.heap.size + 4 ≤ w1.heap.size := by have := hg.size; simp at this; omega
  refine ⟨⟨?_, ?_, h.low, ?_⟩, ?_⟩
  · rw [heap_setCell_same w1 R 3 _ 46 _ hb1]
    simp
  · rw [cells3_snoc, List.length_append]
    exact ownsRow_setCell_below hown1 h.low _
  · have := h.fits; simp; omega
  · refine Below.setCell (Below.grown ((((hbel.alloc (by omega) _).alloc (by simp; omega) _).alloc (by simp; omega) _).alloc (by simp; omega) _).drew hg (by simp; omega) (fun k hk => ?_)) hB _
    have := (h.own.lt _ hk).1; have := h.low; omega

theorem frozen_of_blk {w : World} {g j : Nat} {cs : Array Value} {t : TypeId} (h : w.heap[g]? = some (.cells cs t (0, 0))) : w.frozen? ⟨g, j, none⟩ = false := by
  simp [World.frozen?, h]

set_option maxRecDepth 100000 in
set_option maxHeartbeats 1600000 in
theorem buildA (a : Option Addr) (len cap : Nat) (S K : Nat → Int) (latest sent read : Int) (w : World) (hlen : len ≤ 1024) (hr : CRow w.heap.size w a len S K) :
    Calls Yba.prog 7 #[.slice a len cap, .int .u32 latest, .int .i64 sent, .int .i64 read] w fun e w' => ∃ ao c, e = .returned (.pointer (some ⟨w.heap.size, 0, none⟩)) ∧
      Resu w' w.heap.size (w.heap.size + 1) latest sent read (built S K len) ao c ∧ Below w.heap.size w w' := by
  obtain ⟨i0, hi, hz⟩ := Option.map_eq_some_iff.1 Yba.info43
  simp only [Prod.mk.injEq] at hz
  obtain ⟨hz0, hz1, hz2⟩ := hz
  obtain ⟨z, hz0, hzs⟩ := Option.map_eq_some_iff.1 hz0
  go_enter Yba.func7, Yba.ntmps7
  go_wp2_with fail
  go_loopw [19] (fun i wr => ∃ k : Nat, k ≤ len ∧ i = .int .i64 k ∧ ∃ ao c, Resu wr w.heap.size (w.heap.size + 1) latest sent read (built S K k) ao c ∧ Below w.heap.size w wr) (fun i _ => len - (intOf i).toNat)
  case atStart =>
    refine ⟨0, Nat.zero_le _, rfl, none, 0, ⟨?_, World.ownsRow_nil _ _ _ _, by omega, by simp⟩, (Below.refl _ _).alloc (Nat.le_refl _) _⟩
    exact heap_alloc_new w _
  case round =>
    obtain ⟨k, hk, rfl, ao, c, hres, hbel⟩ := hrel
    have HR : Hid (Resu wr w.heap.size (w.heap.size + 1) latest sent read (built S K k) ao c) := hres
    obtain ⟨hblk, hown, _, hfit⟩ := hres
    rw [built_length] at hblk hown
    by_cases hlt : k < len
    · obtain ⟨b, off, rfl, hbB, hc⟩ := hr (by omega)
      obtain ⟨cS, cK, s0, s1, k0, k1⟩ := hc k hlt
      have cS' := (hbel.cell (p := ⟨b, off + k * 2, none⟩) hbB).trans cS
      have cK' := (hbel.cell (p := ⟨b, off + k * 2 + 1, none⟩) hbB).trans cK
      clear cS cK hc hr
      have cR : wr.cell? ⟨w.heap.size, 3, none⟩ = some (.slice ao k c) := by rw [cell_of_row wr w.heap.size 3 _ 46 (0, 0) hblk]; rfl
      have fR : wr.frozen? ⟨w.heap.size, 3, none⟩ = false := frozen_of_blk hblk
      have hne : (Value.slice ao k c).ownBlock ≠ some w.heap.size := fun h => by have := (hown.lt _ h).1; omega
      have hR : w.heap.size < wr.heap.size := hfit
      have hne2 : w.heap.size ≠ wr.heap.size := by omega
      have cR3 : ∀ o1 o2 o3, (((wr.alloc o1).alloc o2).alloc o3).cell? ⟨w.heap.size, 3, none⟩ = some (.slice ao k c) := fun o1 o2 o3 => cell_alloc3 cR o1 o2 o3
      have cR4 : ∀ o1 o2 o3 o4, ((((wr.alloc o1).alloc o2).alloc o3).alloc o4).cell? ⟨w.heap.size, 3, none⟩ = some (.slice ao k c) := fun o1 o2 o3 o4 => cell_alloc4 cR o1 o2 o3 o4
      have hk0 : (0 : Int) ≤ (k : Int) := by omega
      have hk1 : (k : Int) < 1024 := by omega
      have hwk : IntKind.u32.wrap (k : Int) = (k : Int) := wrapU32 _ (by omega) (by omega)
      clear hblk
      go_wp2_with fail
      have cC : ∀ cs : Array Value, ∀ t j, (wr.alloc (.cells cs t)).cell? ⟨wr.heap.size, j, none⟩ = cs[j]? := fun cs t j => World.cell?_alloc_at _ _ _ _ rfl
      refine wp_region_K (fun w' => w'.cell? ⟨w.heap.size, 3, none⟩ = some (.slice ao k c) ∧ w'.cell? ⟨wr.heap.size, 0, none⟩ = some (.int .u8 (S k)) ∧ w'.cell? ⟨wr.heap.size, 1, none⟩ = some (.int .u32 (K k))) (fun i => decide (16 ≤ i)) (by kernel_rfl) ?_
      have hS : (wr.alloc (.cells #[.int .u8 (S k), .int .u32 (K k)] 33)).drew.cell? ⟨w.heap.size, 3, none⟩ = some (.slice ao k c) ∧ (wr.alloc (.cells #[.int .u8 (S k), .int .u32 (K k)] 33)).drew.cell? ⟨wr.heap.size, 0, none⟩ = some (.int .u8 (S k)) ∧ (wr.alloc (.cells #[.int .u8 (S k), .int .u32 (K k)] 33)).drew.cell? ⟨wr.heap.size, 1, none⟩ = some (.int .u32 (K k)) := ⟨cell_alloc1 cR _, cC _ _ 0, cC _ _ 1⟩
      refine wpAnyK_take 0 rfl (by kernel_rfl) (by kernel_rfl) (by kernel_rfl) rfl (by kernel_rfl) (fun _ _ _ h => h) hS (Or.inl ⟨by rfl, by intro wx hx; obtain ⟨x1, x2, x3⟩ := hx; go_simp <;> with_reducible rfl⟩) ?_
      try simp only [Act.put, List.setIfInBounds_toArray, List.set_cons_zero, List.set_cons_succ]
      refine wpAnyK_take 1 rfl (by kernel_rfl) (by kernel_rfl) (by kernel_rfl) rfl (by kernel_rfl) (fun _ _ _ h => h) hS (Or.inl ⟨by rfl, by intro wx hx; obtain ⟨x1, x2, x3⟩ := hx; go_simp <;> with_reducible rfl⟩) ?_
      try simp only [Act.put, List.setIfInBounds_toArray, List.set_cons_zero, List.set_cons_succ]
      refine wpAnyK_take 2 rfl (by kernel_rfl) (by kernel_rfl) (by kernel_rfl) rfl (by kernel_rfl) (fun _ _ _ h => h) hS (Or.inl ⟨by rfl, by intro wx hx; obtain ⟨x1, x2, x3⟩ := hx; go_simp <;> with_reducible rfl⟩) ?_
      try simp only [Act.put, List.setIfInBounds_toArray, List.set_cons_zero, List.set_cons_succ]
      refine wpAnyK_take 3 rfl (by kernel_rfl) (by kernel_rfl) (by kernel_rfl) rfl (by kernel_rfl) (fun _ _ _ h => h) hS (Or.inl ⟨by rfl, by intro wx hx; obtain ⟨x1, x2, x3⟩ := hx; go_simp <;> with_reducible rfl⟩) ?_
      try simp only [Act.put, List.setIfInBounds_toArray, List.set_cons_zero, List.set_cons_succ]
      refine wpAnyK_take 4 rfl (by kernel_rfl) (by kernel_rfl) (by kernel_rfl) rfl (by kernel_rfl) (fun _ _ _ h => h) hS (Or.inl ⟨by rfl, by intro wx hx; obtain ⟨x1, x2, x3⟩ := hx; go_simp <;> with_reducible rfl⟩) ?_
      try simp only [Act.put, List.setIfInBounds_toArray, List.set_cons_zero, List.set_cons_succ]
      refine wpAnyK_take 5 rfl (by kernel_rfl) (by kernel_rfl) (by kernel_rfl) rfl (by kernel_rfl) (fun _ _ _ h => h) hS (Or.inl ⟨by rfl, by intro wx hx; obtain ⟨x1, x2, x3⟩ := hx; go_simp <;> with_reducible rfl⟩) ?_
      try simp only [Act.put, List.setIfInBounds_toArray, List.set_cons_zero, List.set_cons_succ]
      refine wpAnyK_take 6 rfl (by kernel_rfl) (by kernel_rfl) (by kernel_rfl) rfl (by kernel_rfl) (fun _ _ _ h => h) hS (Or.inl ⟨by rfl, by intro wx hx; obtain ⟨x1, x2, x3⟩ := hx; go_simp <;> with_reducible rfl⟩) ?_
      try simp only [Act.put, List.setIfInBounds_toArray, List.set_cons_zero, List.set_cons_succ]
      refine wpAnyK_take 8 rfl (by kernel_rfl) (by kernel_rfl) (by kernel_rfl) rfl (by kernel_rfl) (fun _ _ _ h => h) hS (Or.inl ⟨by rfl, by intro wx hx; obtain ⟨x1, x2, x3⟩ := hx; go_simp <;> with_reducible rfl⟩) ?_
      try simp only [Act.put, List.setIfInBounds_toArray, List.set_cons_zero, List.set_cons_succ]
      refine wpAnyK_take 9 rfl (by kernel_rfl) (by kernel_rfl) (by kernel_rfl) rfl (by kernel_rfl) (fun _ _ _ h => h) hS (Or.inl ⟨by rfl, by intro wx hx; obtain ⟨x1, x2, x3⟩ := hx; go_simp <;> with_reducible rfl⟩) ?_
      try simp only [Act.put, List.setIfInBounds_toArray, List.set_cons_zero, List.set_cons_succ]
      refine wpAnyK_take 10 rfl (by kernel_rfl) (by kernel_rfl) (by kernel_rfl) rfl (by kernel_rfl) (fun _ _ _ h => h) hS (Or.inl ⟨by rfl, by intro wx hx; obtain ⟨x1, x2, x3⟩ := hx; go_simp <;> with_reducible rfl⟩) ?_
      try simp only [Act.put, List.setIfInBounds_toArray, List.set_cons_zero, List.set_cons_succ]
      refine wpAnyK_take 11 rfl (by kernel_rfl) (by kernel_rfl) (by kernel_rfl) rfl (by kernel_rfl) (fun _ _ _ h => h) hS (Or.inl ⟨by rfl, by intro wx hx; obtain ⟨x1, x2, x3⟩ := hx; go_simp <;> with_reducible rfl⟩) ?_
      try simp only [Act.put, List.setIfInBounds_toArray, List.set_cons_zero, List.set_cons_succ]
      refine wpAnyK_take 12 rfl (by kernel_rfl) (by kernel_rfl) (by kernel_rfl) rfl (by kernel_rfl) (fun _ _ _ h => h) hS (Or.inl ⟨by rfl, by intro wx hx; obtain ⟨x1, x2, x3⟩ := hx; go_simp <;> with_reducible rfl⟩) ?_
      try simp only [Act.put, List.setIfInBounds_toArray, List.set_cons_zero, List.set_cons_succ]
      refine wpAnyK_one 7 rfl (by kernel_rfl) (fun KK hKK => ?_)
      go_simp
      refine (handleA (S k) _ s0 s1).mono ?_
      rintro e w' ⟨rfl, rfl⟩
      go_simp
      refine hKK.out _ _ (fun _ => ⟨cR3 _ _ _, cell_alloc1 (cell_alloc1 (cC _ _ 0) _) _, cell_alloc1 (cell_alloc1 (cC _ _ 1) _) _⟩) (fun h => ?_)
      replace hS := h rfl
      clear hKK KK
      try simp only [Act.put, List.setIfInBounds_toArray, List.set_cons_zero, List.set_cons_succ]
      refine wpAnyK_take 13 rfl (by kernel_rfl) (by kernel_rfl) (by kernel_rfl) rfl (by kernel_rfl) (fun _ _ _ h => h) hS (Or.inl ⟨by rfl, by intro wx hx; obtain ⟨x1, x2, x3⟩ := hx; go_simp <;> with_reducible rfl⟩) ?_
      try simp only [Act.put, List.setIfInBounds_toArray, List.set_cons_zero, List.set_cons_succ]
      refine wpAnyK_one 14 rfl (by kernel_rfl) (fun KK hKK => ?_)
      go_simp
      refine hKK.out _ _ (fun _ => ⟨cR4 _ _ _ _, cell_alloc3 (cC _ _ 0) _ _ _, cell_alloc3 (cC _ _ 1) _ _ _⟩) (fun h => ?_)
      replace hS := h rfl
      clear hKK KK
      try simp only [Act.put, List.setIfInBounds_toArray, List.set_cons_zero, List.set_cons_succ]
      refine wpAnyK_one 15 rfl (by kernel_rfl) (fun KK hKK => ?_)
      refine step_append_lies _ (by rfl) (.tmp 28) (.tmp 38) _ (by rfl) (w.heap.size + 1) 43 i0 z 29 160 Yba.underlying31 hi hz0 hz1 hz2 hzs (by omega) (.slice ao k c) k (cells3 (built S K k)) (by rfl) ((((((hown.alloc _).alloc _).alloc _).alloc _).drew)) ⟨wr.heap.size + 3, 0, none⟩ 1 1 (chg (S k % 3) (K k) k) (by rfl) (by rfl) (by exact news4 wr _ _ _ (chg (S k % 3) (K k) k) 43) (chg_one _ _ _) (by omega) (by unfold maxLen; omega) (by omega) (by simp; omega) (wr.heap.size + 4) (by simp) ?_
      intro g cap w1 hown1 hgrow hat hlt
      have e1 := app_old hown hgrow cR (by simp)
      have e2 := app_new (j := 0) hown hgrow rfl
      have e3 := app_new (j := 1) hown hgrow rfl
      have f1 := app_oldf (a := ⟨w.heap.size, 3, none⟩) hown hgrow hR fR (by simp)
      refine hKK.out _ _ (fun _ => ⟨e1, e2, e3⟩) (fun h => ?_)
      replace hS := h rfl
      clear hKK KK
      try simp only [Act.put, List.setIfInBounds_toArray, List.set_cons_zero, List.set_cons_succ]
      refine wpAnyK_one 16 rfl (by kernel_rfl) (fun KK hKK => ?_)
      go_simp
      refine hKK.out _ _ (fun h => absurd h (by decide)) (fun _ => ?_)
      clear hKK KK
      try simp only [Act.put, List.setIfInBounds_toArray, List.set_cons_zero, List.set_cons_succ]
      refine wpAnyK_one 17 rfl (by kernel_rfl) (fun KK hKK => ?_)
      go_simp
      refine hKK.out _ _ (fun h => absurd h (by decide)) (fun _ => ?_)
      clear hKK KK
      try simp only [Act.put, List.setIfInBounds_toArray, List.set_cons_zero, List.set_cons_succ]
      refine wpAnyK_one 18 rfl (by kernel_rfl) (fun KK hKK => ?_)
      go_simp
      refine hKK.out _ _ (fun h => absurd h (by decide)) (fun _ => ?_)
      clear hKK KK
      try simp only [Act.put, List.setIfInBounds_toArray, List.set_cons_zero, List.set_cons_succ]
      refine wpAnyK_done (by kernel_rfl) (NoPanic.normal ?_) _
      have RS := Resu.step (l := built S K k) (x := S k % 3) (k := K k) (p := (k : Int)) HR.out hbel (Nat.le_refl _) (by rw [built_length]; exact hown1) (by rw [built_length]; exact hgrow)
      rw [built_length, ← built_succ] at RS
      have HRS : Hid (_ ∧ _) := RS
      clear RS hS e1 e2 e3 f1 hown1 hgrow cC cR3 cR4
      go_wp2
      go_roundw
      case rel => exact ⟨k + 1, by omega, by go_num, some ⟨g, 0, none⟩, cap, HRS.out.1, HRS.out.2⟩
      case measure => simp [intOf]; omega
    · obtain rfl : k = len := by omega
      go_wp2
      go_ret
      exact ⟨ao, c, rfl, HR.out, hbel⟩
end Go.Proofs.Ybulkamho
