import Derived.Test.YbulkamhoEq
import Derived.Below
namespace Go.Proofs.Ybulkamho
open Go.RowKit
set_option linter.unusedSimpArgs false

/-- A handle as a value. -/
abbrev hv (y : Int) : Value := .agg #[.int .u8 y, .int .u8 0, .int .u8 0, .int .u8 0, .int .u8 0, .int .u8 0, .int .u8 0, .int .u8 0]

/-- Block b is a map whose entries are the handles U, each to true, in this order. -/
def HMap (w : World) (b : Nat) (U : List Int) : Prop := ∃ es clock, w.heap[b]? = some (.map es clock) ∧ es.toList.map (fun e => (e.key, e.val)) = U.map fun y => (hv y, .bool true)

/-- What 'm[y] = true' makes of the keys. -/
def ins (U : List Int) (y : Int) : List Int := if y ∈ U then U else U ++ [y]

theorem run_checkKey28 (empty : Bool) (y : Int) (w : World) : (Instr.checkKey empty 10000 28 (hv y)).run Yba.prog w = .ok () w := by
  obtain ⟨i, hi, hs⟩ := Option.map_eq_some_iff.1 infoSize5
  have e : List.range' 0 8 = [0, 1, 2, 3, 4, 5, 6, 7] := rfl
  have h5 : ∀ a w, (Instr.checkKey empty 9999 5 (.int .u8 a)).run Yba.prog w = .ok () w := fun a w => by
    rw [Instr.checkKey]; simp [run_underlying Yba.underlying5]
  rw [Instr.checkKey]
  simp only [Sem.run_bind, run_underlying Yba.underlying28, Result.andThen_ok]
  simp [sizeOf, typeInfo, hi, hs, part, e, h5]

theorem run_findAsking28 (y : Int) (w : World) : ∀ (es : List MapEntry) (U : List Int) (i : Nat), es.map (fun e => (e.key, e.val)) = U.map (fun y => (hv y, .bool true)) →
    (Instr.findAsking 28 (hv y) es i).run Yba.prog w = .ok ((U.findIdx? (· == y)).map fun j => (i + j, .bool true)) w
  | [], [], i, _ => by simp [Instr.findAsking]
  | [], _ :: _, i, h => by simp at h
  | _ :: _, [], i, h => by simp at h
  | e :: es, u :: U, i, h => by
    simp only [List.map_cons, List.cons.injEq, Prod.mk.injEq] at h
    obtain ⟨⟨hk, hvv⟩, ht⟩ := h
    have heq : (Op.equal 28 (hv y) (hv u)).run Yba.prog w = .ok (y == u) w := equal28 9998 y u w
    rw [Instr.findAsking, hk]
    simp only [Sem.run_bind, heq, Result.andThen_ok]
    by_cases hyu : y = u
    · subst hyu
      simp [List.findIdx?_cons, hvv]
    · have hb : (y == u) = false := by simpa using hyu
      have hb' : (u == y) = false := by simpa using fun h => hyu h.symm
      rw [hb]
      simp only [Bool.false_eq_true, if_false]
      rw [run_findAsking28 y w es U (i + 1) ht]
      simp [List.findIdx?_cons, hb', Option.map_map, Function.comp_def, Nat.add_assoc, Nat.add_comm 1]

theorem run_findKey28 (y : Int) (w : World) (es : List MapEntry) (U : List Int) (h : es.map (fun e => (e.key, e.val)) = U.map (fun y => (hv y, .bool true))) :
    (Instr.findKey 28 (hv y) es).run Yba.prog w = .ok ((U.findIdx? (· == y)).map fun j => (j, .bool true)) w := by
  unfold Instr.findKey
  simp only [Sem.run_bind, run_underlying Yba.underlying28, Result.andThen_ok]
  cases es with
  | nil =>
    cases U with
    | nil => simp [Instr.findNow]
    | cons _ _ => simp at h
  | cons e es =>
    have : Instr.findNow (.array 8 5) (hv y) (e :: es) 0 = none := by simp [Instr.findNow, Instr.sameNow]
    rw [this]
    have := run_findAsking28 y w (e :: es) U 0 h
    simpa using this

theorem mem_of_findIdx? {U : List Int} {y : Int} : (U.findIdx? (· == y)).isSome = decide (y ∈ U) := by
  induction U with
  | nil => simp
  | cons u U ih =>
    rw [List.findIdx?_cons]
    by_cases h : u = y
    · simp [h]
    · have hb : (u == y) = false := by simpa using h
      have hn : ¬ y = u := fun e => h e.symm
      simp only [hb, Bool.false_eq_true, if_false, Option.isSome_map, ih, List.mem_cons, hn, false_or]

/-- 'm[y]' on such a map. -/
theorem run_lookup66 (y : Int) (w : World) (b : Nat) (U : List Int) (h : HMap w b U) : (Instr.lookup 66 (.map (some b)) (hv y) false).run Yba.prog w = .ok (.bool (decide (y ∈ U))) w := by
  obtain ⟨es, clock, hb, he⟩ := h
  have hz : (Yba.prog.info? 4).map (·.zero) = some (some (.bool false)) := by kernel_rfl
  obtain ⟨i, hi, hs⟩ := Option.map_eq_some_iff.1 hz
  unfold Instr.lookup
  simp only [Sem.run_bind, run_underlying Yba.underlying66, Result.andThen_ok, Sem.run_pure, Go.MapKept.run_getObj_map (P := Yba.prog) hb, run_checkKey28, run_findKey28 y w es.toList U he]
  have hm := mem_of_findIdx? (U := U) (y := y)
  cases hf : U.findIdx? (· == y) with
  | none =>
    rw [hf] at hm
    have : y ∉ U := by simpa using hm.symm
    simp [zeroValue, typeInfo, hi, hs, this]
  | some j =>
    rw [hf] at hm
    have : y ∈ U := by simpa using hm.symm
    simp [this]

/-- 'm[y] = true' on such a map. -/
theorem run_update66 (y : Int) (w : World) (b : Nat) (U : List Int) (h : HMap w b U) : ∃ w', (Instr.mapUpdate 66 (.map (some b)) (hv y) (.bool true)).run Yba.prog w = .ok () w' ∧ HMap w' b (ins U y) ∧ w.grownBy w' (some b) ∧ w'.heap.size = w.heap.size := by
  obtain ⟨es, clock, hb, he⟩ := h
  have hbl : b < w.heap.size := (Array.getElem?_eq_some_iff.1 hb).1
  have hm := mem_of_findIdx? (U := U) (y := y)
  have hfk := run_findKey28 y w es.toList U he
  unfold Instr.mapUpdate
  simp only [Sem.run_bind, run_underlying Yba.underlying66, Result.andThen_ok, Sem.run_pure, Go.MapKept.run_getObj_map (P := Yba.prog) hb, run_checkKey28, hfk]
  have gr : ∀ o, w.grownBy { w with heap := w.heap.setIfInBounds b o } (some b) := fun o => ⟨rfl, rfl, rfl, by simp, fun k hk hne => by
    show (w.heap.setIfInBounds b o)[k]? = _
    rw [Array.getElem?_setIfInBounds_ne (by simpa using fun e => hne (by simp [e]))]⟩
  have at_ : ∀ o, ({ w with heap := w.heap.setIfInBounds b o } : World).heap[b]? = some o := fun o => by
    show (w.heap.setIfInBounds b o)[b]? = _
    simp [Array.getElem?_setIfInBounds, hbl]
  cases hf : U.findIdx? (· == y) with
  | none =>
    rw [hf] at hm
    have hn : y ∉ U := by simpa using hm.symm
    simp only [Option.map_none, Go.MapKept.run_setObj_map (P := Yba.prog) _ hb]
    refine ⟨_, rfl, ⟨_, _, at_ _, ?_⟩, gr _, by simp⟩
    simp [ins, hn, he]
  | some j =>
    rw [hf] at hm
    have hn : y ∈ U := by simpa using hm.symm
    have hj := List.findIdx?_eq_some_iff_getElem.1 hf
    obtain ⟨hjl, hjy, _⟩ := hj
    have hjy' : U[j] = y := by simpa using hjy
    have hel : es.toList.length = U.length := by simpa using congrArg List.length he
    have hjs : j < es.size := by simpa using (by omega : j < es.toList.length)
    have hej : (es[j].key, es[j].val) = (hv y, Value.bool true) := by
      have := congrArg (fun l => l[j]?) he
      simp [hjs, hjl, hjy'] at this
      simpa using this
    have hk : es[j].key = hv y := (Prod.mk.inj hej).1
    have hvv : es[j].val = .bool true := (Prod.mk.inj hej).2
    have hsb : Instr.sameBits 10000 (hv y) (hv y) = true := by simp [Instr.sameBits]
    have hks : (Instr.keyThatStays (((es[j]?).map (·.key)).getD (hv y)) (hv y)).run Yba.prog w = .ok (hv y) w := by
      rw [Array.getElem?_eq_getElem hjs]
      simp only [Option.map_some, Option.getD_some, hk]
      unfold Instr.keyThatStays
      rw [hsb]
      rfl
    simp only [Option.map_some, Sem.run_bind, hks, Result.andThen_ok, Go.MapKept.run_setObj_map (P := Yba.prog) _ hb]
    refine ⟨_, rfl, ⟨_, _, at_ _, ?_⟩, gr _, by simp⟩
    rw [ins, if_pos hn, ← he]
    apply List.ext_getElem?
    intro k
    by_cases hkj : k = j
    · subst hkj
      simp [Array.getElem?_modify, hjs, hk, hvv]
    · simp [Array.getElem?_modify, Ne.symm hkj]

theorem wpList_lookup66 {ops : Array Oper} {rest : List Oper} {o : Oper} {a : Act} {w : World} {Q : Exit → Act → World → Prop} (hgd : o.guard = none) (x k : Operand) (ho : o.op = .lookup 66 x k false)
    (b : Nat) (U : List Int) (y : Int) (hx : a.eval x = .map (some b)) (hk : a.eval k = hv y) (hm : HMap w b U)
    (h : wpList Yba.prog ops Q rest (a.put o.dst (.bool (decide (y ∈ U)))) w) : wpList Yba.prog ops Q (o :: rest) a w := by
  refine wpList_plain hgd fun K hK => ?_
  have hrun := run_lookup66 y w b U hm
  unfold Oper.wp execOp
  simp only [ho, hx, hk, Sem.run_bind, hrun, Result.andThen_ok, Sem.run_pure]
  exact hK _ _ h

theorem wpList_update66 {ops : Array Oper} {rest : List Oper} {o : Oper} {a : Act} {w : World} {Q : Exit → Act → World → Prop} (hgd : o.guard = none) (x k : Operand) (ho : o.op = .mapUpdate 66 x k (.const (.bool true)))
    (b : Nat) (U : List Int) (y : Int) (hx : a.eval x = .map (some b)) (hk : a.eval k = hv y) (hm : HMap w b U)
    (h : ∀ w', HMap w' b (ins U y) → w.grownBy w' (some b) → w'.heap.size = w.heap.size → wpList Yba.prog ops Q rest (a.put o.dst undef) w') : wpList Yba.prog ops Q (o :: rest) a w := by
  refine wpList_plain hgd fun K hK => ?_
  obtain ⟨w', hrun, h1, h2, h3⟩ := run_update66 y w b U hm
  have hc : a.eval (.const (.bool true)) = .bool true := rfl
  unfold Oper.wp execOp
  simp only [ho, hx, hk, hc, Sem.run_bind, hrun, Result.andThen_ok, Sem.run_pure]
  exact hK _ _ (h w' h1 h2 h3)

theorem HMap.keep {w w' : World} {b : Nat} {U : List Int} (h : HMap w b U) (e : w'.heap[b]? = w.heap[b]?) : HMap w' b U := by
  obtain ⟨es, clock, hb, he⟩ := h
  exact ⟨es, clock, e.trans hb, he⟩
theorem HMap.lt {w : World} {b : Nat} {U : List Int} (h : HMap w b U) : b < w.heap.size := by
  obtain ⟨es, clock, hb, he⟩ := h
  exact (Array.getElem?_eq_some_iff.1 hb).1
theorem HMap.new (w : World) : HMap (w.alloc (.map #[] 0)) w.heap.size [] := ⟨#[], 0, heap_alloc_new w _, rfl⟩
end Go.Proofs.Ybulkamho
