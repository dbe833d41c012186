import Derived.Test.YbulkamjeAdd
namespace Go.Proofs.Ybulkamje
open Go.RowKit Go.Maps Go.WideMaps Go.Shelf Go.Sort
set_option linter.unusedSimpArgs false

/-- The names' bytes, in order. -/
def kL (N : Nat) : List (List UInt8) := (List.range N).map fun i => [103, UInt8.ofNat i]
theorem kL_length (N : Nat) : (kL N).length = N := by simp [kL]
theorem kL_nodup (N : Nat) (hN : N ≤ 256) : (kL N).Nodup := by
  unfold kL
  refine List.pairwise_map.2 ?_
  refine (List.pairwise_lt_range (n := N)).imp_of_mem ?_
  intro a b ha hb h e
  simp only [List.cons.injEq, and_true, true_and] at e
  simp at ha hb
  have := ofNat_inj (by omega) (by omega) e
  omega
theorem kL_sorted (N : Nat) (hN : N ≤ 256) : (kL N).Pairwise (fun x y => decide (x ≤ y) = true) := by
  unfold kL
  refine List.pairwise_map.2 ?_
  refine (List.pairwise_lt_range (n := N)).imp_of_mem ?_
  intro a b ha hb h
  simp at ha hb
  have e : UInt8.ofNat a < UInt8.ofNat b := by rw [UInt8.lt_iff_toNat_lt]; simp; omega
  simp only [decide_eq_true_eq]
  refine List.le_of_lt ?_
  refine List.Lex.cons ?_
  exact List.Lex.rel e
theorem keysSorted {w : World} {R : Value → Option (DataW Nat × List MemPlace)} {b n N : Nat} {D : DataW Nat} {f : Nat → DataW Nat} (hown : w.ownsMap Yba.prog 9 R b n D) (ht : Tab D (fun i => decide (i < N)) f) (hN : N ≤ 256) {ss : List (List UInt8)} (hp : ss.Perm (strKeys D)) :
    ss.mergeSort (fun x y => decide (x ≤ y)) = kL N ∧ ss.length = N := by
  obtain ⟨es, rfl, h1, h2⟩ := hown.entries K9
  have hperm : (kL N).Perm (strKeys (.map es)) := by
    refine perm_strKeys h1 (fun p hp' => ?_) (kL_nodup N hN) (fun x => ?_)
    · have hh : Maps.has (.map es) p.1 = true := by
        simp only [Maps.has, List.any_eq_true]
        exact ⟨p, hp', WideAt.sameKey_self (h2 p hp')⟩
      obtain ⟨i, _, _, e⟩ := (ht.has p.1).1 hh
      exact ⟨_, e⟩
    · rw [ht.has]
      simp only [kL, List.mem_map, List.mem_range, lit, Lit.string.injEq, decide_eq_true_eq]
      constructor
      · rintro ⟨i, hi, rfl⟩; exact ⟨i, by omega, hi, rfl⟩
      · rintro ⟨i, _, hi, rfl⟩; exact ⟨i, hi, rfl⟩
  have h3 : ss.Perm (kL N) := hp.trans hperm.symm
  refine ⟨?_, by rw [h3.length_eq, kL_length]⟩
  refine List.Perm.eq_of_pairwise (le := fun x y => decide (x ≤ y) = true) (fun a b _ _ h4 h5 => ?_) (List.pairwise_mergeSort (fun a b c h4 h5 => ?_) (fun a b => ?_) ss) (kL_sorted N hN) ((List.mergeSort_perm _ _).trans h3)
  · simp only [decide_eq_true_eq] at h4 h5; exact List.le_antisymm h4 h5
  · simp only [decide_eq_true_eq] at h4 h5 ⊢; exact List.le_trans h4 h5
  · simp only [Bool.or_eq_true, decide_eq_true_eq]; exact List.le_total a b
theorem key_of {v : Value} {i : Nat} (h : keyOf Yba.prog 9 v = some (lit i)) : v = .string (key i) := by
  obtain ⟨s, rfl, e, _⟩ := string_of_keyOf Yba.underlying9 h
  simp only [lit, Lit.string.injEq] at e
  have hs : s = key i := by
    obtain ⟨d⟩ := s
    have : d = #[103, UInt8.ofNat i] := Array.ext' e.symm
    rw [this, key]
  rw [hs]

/-- A new order's cells. -/
theorem builtO (a : Option Addr) (n c m1 m3 m4 m6 m7 m12 m14 m15 m16 : Nat) : ∃ cs : Array Value, Yba.prog.built 41 [(0, .string ⟨#[97]⟩), (1, .map (some m1)), (2, .slice a n c), (3, .map (some m3)), (4, .map (some m4)), (6, .map (some m6)), (7, .map (some m7)), (12, .map (some m12)), (14, .map (some m14)), (15, .map (some m15)), (16, .map (some m16)), (21, .int .i64 16777216)] = some cs ∧
    cs[1]? = some (.map (some m1)) ∧ cs[2]? = some (.slice a n c) ∧ cs[16]? = some (.map (some m16)) := by
  have h : (Yba.prog.built 41 [(0, .string ⟨#[97]⟩), (1, .map (some m1)), (2, .slice a n c), (3, .map (some m3)), (4, .map (some m4)), (6, .map (some m6)), (7, .map (some m7)), (12, .map (some m12)), (14, .map (some m14)), (15, .map (some m15)), (16, .map (some m16)), (21, .int .i64 16777216)]).map (fun cs => (cs[1]?, cs[2]?, cs[16]?)) = some (some (.map (some m1)), some (.slice a n c), some (.map (some m16))) := by kernel_rfl
  obtain ⟨cs, h1, h2⟩ := Option.map_eq_some_iff.1 h
  simp only [Prod.mk.injEq] at h2
  exact ⟨cs, h1, h2.1, h2.2.1, h2.2.2⟩
theorem wpList_build41 {ops : Array Oper} {rest : List Oper} {o : Oper} {a : Act} {w : World} {Q : Exit → Act → World → Prop} (hgd : o.guard = none) (x0 x1 x2 x3 x4 x6 x7 x12 x14 x15 x16 x21 : Operand) (ho : o.op = .build 41 #[(0, x0), (1, x1), (2, x2), (3, x3), (4, x4), (6, x6), (7, x7), (12, x12), (14, x14), (15, x15), (16, x16), (21, x21)])
    (v0 v1 v2 v3 v4 v6 v7 v12 v14 v15 v16 v21 : Value) (h0 : a.eval x0 = v0) (h1 : a.eval x1 = v1) (h2 : a.eval x2 = v2) (h3 : a.eval x3 = v3) (h4 : a.eval x4 = v4) (h6 : a.eval x6 = v6) (h7 : a.eval x7 = v7) (h12 : a.eval x12 = v12) (h14 : a.eval x14 = v14) (h15 : a.eval x15 = v15) (h16 : a.eval x16 = v16) (h21 : a.eval x21 = v21)
    (cs : Array Value) (hb : Yba.prog.built 41 [(0, v0), (1, v1), (2, v2), (3, v3), (4, v4), (6, v6), (7, v7), (12, v12), (14, v14), (15, v15), (16, v16), (21, v21)] = some cs)
    (h : wpList Yba.prog ops Q rest (a.put o.dst (.agg cs)) w) : wpList Yba.prog ops Q (o :: rest) a w := by
  refine wpList_plain hgd fun K hK => ?_
  have hrun := run_build (P := Yba.prog) w 41 #[(0, v0), (1, v1), (2, v2), (3, v3), (4, v4), (6, v6), (7, v7), (12, v12), (14, v14), (15, v15), (16, v16), (21, v21)] cs hb
  unfold Oper.wp
  simp [execOp, ho, h0, h1, h2, h3, h4, h6, h7, h12, h14, h15, h16, h21, hrun, Result.andThen]
  exact hK _ _ h

/-- The elements of a map of which nothing is asked. -/
def Rb : Value → Option (DataW Nat × List MemPlace) := fun _ => some (.nil, [])
theorem keyOf_mem (j : Nat) : keyOf Yba.prog 9 (.string (mem j)) = some (.string [UInt8.ofNat (97 + j)]) := keyOf_string_mk Yba.underlying9 (by simp [mem, ByteArray.size]; unfold maxLen; omega)
theorem keyOf_a : keyOf Yba.prog 9 (.string ⟨#[97]⟩) = some (.string [97]) := keyOf_mem 0
theorem made_at (W : World) (b : Nat) (R : Value → Option (DataW Nat × List MemPlace)) (hb : W.heap.size = b) : (W.alloc (.map #[] 0)).ownsMap Yba.prog 9 R b 0 (.map []) := by
  rw [← hb]; exact World.ownsMap_made W Yba.prog 9 R
theorem wpList_insert_own (w : World) {ops : Array Oper} {rest : List Oper} {o : Oper} {a : Act} {Q : Exit → Act → World → Prop}
    (hg : o.guard = none) (m x v : Operand) (t : TypeId) (hop : o.op = Op.insert t m x v) (e : TypeId) (ht : Yba.prog.underlying t = some (.map 9 e)) (R : Value → Option (DataW Nat × List MemPlace)) (b n : Nat) (D : DataW Nat)
    (hm : a.eval m = .map (some b)) (hown : w.ownsMap Yba.prog 9 R b n D) (hn : n < maxLen) (key val : Value) (kl : Lit) (hx : a.eval x = key) (hv : a.eval v = val) (hkey : keyOf Yba.prog 9 key = some kl)
    (d : DataW Nat) (ps : List MemPlace) (hval : R val = some (d, ps))
    (hK : ∀ w', w'.ownsMap Yba.prog 9 R b (n + 1) (D.put kl d) → w.grownBy w' (some b) → wpList Yba.prog ops Q rest (a.put o.dst undef) w') :
    wpList Yba.prog ops Q (o :: rest) a w := by
  refine wpList_plain hg fun K' hK' => ?_
  obtain ⟨w', hrun, r1, r2⟩ := hown.update K9 ht hn hkey hval
  unfold Oper.wp
  simp [execOp, hop, hm, hx, hv, hrun, Result.andThen]
  exact hK' _ _ (hK w' r1 r2)
theorem ranges_block {w w' : World} {R : Value → Option (DataW Nat × List MemPlace)} {b r n : Nat} {D : DataW Nat} {left : Lit → Bool} {cnt : Nat} (h : w.ranges Yba.prog 9 R b r n D left cnt) (hb : w'.heap[b]? = w.heap[b]?) (hr : w'.heap[r]? = w.heap[r]?) : w'.ranges Yba.prog 9 R b r n D left cnt := by
  obtain ⟨es, clock, since, seen, c0, h1, F, hs, hD, h2, rest⟩ := h
  exact ⟨es, clock, since, seen, c0, hb.trans h1, F, hs, hD, hr.trans h2, rest⟩
end Go.Proofs.Ybulkamje
