import Derived.Test.YbulkamhoRows
import Derived.Test.YbulkamhoOpen
import Derived.Test.YbulkamhoALaw
import Derived.ShutString
import Derived.ChangeOld
namespace Go.Proofs.Ybulkamho.lawS1899AFilter
open Go.ChangeShapes Go.WideShapes Go.ChangeAt Go.RowKit Go.Deep
set_option linter.unusedVariables false

theorem own : ownKnob Yba.prog.godebug = none := by kernel_rfl
theorem laidOut : laidOutB Yba.prog = true := by kernel_rfl
theorem cells5 : Yba.prog.cellsOf 5 = 1 := by kernel_rfl
theorem cells23 : Yba.prog.cellsOf 23 = 1 := by kernel_rfl
theorem cells33 : Yba.prog.cellsOf 33 = 2 := by kernel_rfl

section
variable {H : Type} {enc : TypeId × Value → H} {w : World} {base : Nat} {spare : Nat → Bool} {held : Bool}

/-- A plain change's two cells. -/
theorem open_change {fuel : Nat} {cs : List Value} {x : DataW H × List MemPlace} (h : DataW.trod enc Yba.prog w base spare held fuel 33 cs = some x) :
    ∃ s k : Int, cs[0]? = some (.int .u8 s) ∧ cs[1]? = some (.int .u32 k) ∧ 0 ≤ s ∧ s ≤ 255 ∧ 0 ≤ k ∧ k < 4294967296 := by
  obtain ⟨y0, y1, n, _, hl, h0, h1⟩ := trod_struct2 Yba.underlying33 h
  obtain ⟨s, hs, _, ws⟩ := DataW.trod_int Yba.underlying5 h0
  obtain ⟨k, hk, _, wk⟩ := DataW.trod_int Yba.underlying23 h1
  rw [cells33] at hl
  rw [cells5] at hs
  rw [cells23] at hk
  match cs, hl with
  | [c0, c1], _ =>
    simp at hs hk
    have b0 := bounds_u8 ws
    have b1 := bounds_u32 wk
    exact ⟨s, k, by simp [hs], by simp [hk], b0.1, b0.2, b1.1, by omega⟩

theorem open_changes {fuel : Nat} {v : Value} {x : DataW H × List MemPlace} (h : DataW.trod enc Yba.prog w base spare held fuel 22 v.cells.toList = some x) :
    ∃ (a : Option Addr) (len cap : Nat) (S K : Nat → Int), v.cells.toList = [.slice a len cap] ∧ CRow w.heap.size w a len S K := by
  obtain ⟨a, len, cap, hv, _, _, hnil, hrow⟩ := open_plain Yba.underlying22 cells33 (by omega) h
  by_cases hp : 0 < len
  · obtain ⟨b, off, n, rfl, hel⟩ := hrow hp
    obtain ⟨F, hF⟩ : ∃ F : Nat → Int × Int, ∀ i, i < len → w.cell? ⟨b, off + i * 2, none⟩ = some (.int .u8 (F i).1) ∧ w.cell? ⟨b, off + i * 2 + 1, none⟩ = some (.int .u32 (F i).2) ∧ 0 ≤ (F i).1 ∧ (F i).1 ≤ 255 ∧ 0 ≤ (F i).2 ∧ (F i).2 < 4294967296 := by
      refine choose_lt (α := Int × Int) (p := fun i f => w.cell? ⟨b, off + i * 2, none⟩ = some (.int .u8 f.1) ∧ w.cell? ⟨b, off + i * 2 + 1, none⟩ = some (.int .u32 f.2) ∧ 0 ≤ f.1 ∧ f.1 ≤ 255 ∧ 0 ≤ f.2 ∧ f.2 < 4294967296) fun i hi => ?_
      obtain ⟨cs', y, hl, hc, hy⟩ := hel i hi
      obtain ⟨s, k, e0, e1, b0, b1, b2, b3⟩ := open_change hy
      exact ⟨(s, k), (hc 0 (by omega)).trans e0, (hc 1 (by omega)).trans e1, b0, b1, b2, b3⟩
    refine ⟨_, len, cap, fun i => (F i).1, fun i => (F i).2, hv, fun _ => ⟨b, off, rfl, ?_, hF⟩⟩
    exact World.block_lt_of_cell? w _ (hF 0 hp).1
  · exact ⟨a, len, cap, fun _ => 0, fun _ => 0, hv, fun h => absurd h hp⟩
end

set_option maxRecDepth 100000 in
set_option maxHeartbeats 400000 in
theorem walk (a : Option Addr) (len cap : Nat) (S K : Nat → Int) (who key latest sent read : Int) (w : World) (hr : CRow w.heap.size w a len S K) (hw0 : 0 ≤ who) (hw1 : who ≤ 255) :
    Calls Yba.prog 3 #[.slice a len cap, .int .u8 who, .int .u32 key, .int .u32 latest, .int .i64 sent, .int .i64 read] w fun e w' => e = .returned (.bool true) ∧ Below w.heap.size w w' := by
  by_cases hl0 : len ≤ 1024
  · exact lawA a len cap S K who key latest sent read w hl0 hr hw0 hw1
  · have hd0 : (1024 : Int) < (len : Int) := by omega
    go_enter Yba.func3, Yba.ntmps3
    go_wp2
    go_ret
    exact ⟨rfl, Below.refl _ _⟩

set_option maxRecDepth 100000 in
theorem lifted (os : Os) (started : os.Started) (H : Type) (enc : TypeId × Value → H) :
    ReturnsInHanded {} Yba.checked os 3 .any (Rows.lawS1899AFilterSpec.pre6 enc Yba.prog Yba.f3 Rows.lawS1899AFilterRow.domain false) (Rows.lawS1899AFilterSpec.post enc Yba.prog Yba.f3 false true false false) := by
  refine returnsInHanded_of_change (C := Yba.checked) own started (by kernel_rfl) Yba.func3
    (ChangeSpec.witness6 (enc := enc) (C := Yba.checked) false ⟨#[], #[.slice none 0 0, .int .u8 0, .int .u32 0, .int .u32 0, .int .i64 0, .int .i64 0], []⟩ 8 (by kernel_rfl) (by kernel_rfl) (by kernel_rfl) (by kernel_rfl)) ?_
  intro W base args ds gs before hval0 hW hcnd _
  have hval : ∀ (j : Nat) t v, Yba.f3.params[j]? = some t → args[j]? = some v → Value.okWide Yba.prog W .any base t v := hval0
  have hW' := hW
  obtain ⟨p, q, hA0, hV, rfl, hfz, hnd⟩ := hW
  have hA : DataW.TrodAll enc Yba.prog W 0 (fun _ => true) true Yba.f3.params.toList args.toList ds p := hA0
  rw [Yba.params3] at hA hval
  obtain ⟨v0, vs0, d0, ds0, p0, q0, hargs, rfl, rfl, h0, r0⟩ := trodAll_cons hA
  obtain ⟨v1, vs1, d1, ds1, p1, q1, rfl, rfl, rfl, h1, r1⟩ := trodAll_cons r0
  obtain ⟨v2, vs2, d2, ds2, p2, q2, rfl, rfl, rfl, h2, r2⟩ := trodAll_cons r1
  obtain ⟨v3, vs3, d3, ds3, p3, q3, rfl, rfl, rfl, h3, r3⟩ := trodAll_cons r2
  obtain ⟨v4, vs4, d4, ds4, p4, q4, rfl, rfl, rfl, h4, r4⟩ := trodAll_cons r3
  obtain ⟨v5, vs5, d5, ds5, p5, q5, rfl, rfl, rfl, h5, r5⟩ := trodAll_cons r4
  obtain ⟨rfl, rfl, rfl⟩ := trodAll_nil r5
  obtain rfl : args = #[v0, v1, v2, v3, v4, v5] := by cases args; simp_all
  obtain ⟨rfl, rfl⟩ := trodVars_none hV
  obtain ⟨a0, len0, cap0, rfl⟩ := okWide_slice Yba.underlying22 (hval 0 22 v0 rfl rfl)
  have k0 := h0
  have lt0 : ∀ x ∈ p0, x.block < W.heap.size := by obtain ⟨m, hm⟩ := k0; exact DataW.trod_lt m _ _ _ hm
  obtain ⟨S, K, w0⟩ : ∃ S K, CRow W.heap.size W a0 len0 S K := by
    obtain ⟨fuel, hf⟩ := h0
    obtain ⟨a, l, c, S, K, hcs, hb⟩ := open_changes hf
    simp [Value.cells] at hcs
    obtain ⟨rfl, rfl, rfl⟩ := hcs
    exact ⟨S, K, hb⟩
  obtain ⟨x1, rfl, rfl, rfl, wx1⟩ := open_int Yba.underlying5 (hval 1 5 v1 rfl rfl) h1
  obtain ⟨x2, rfl, rfl, rfl, wx2⟩ := open_int Yba.underlying23 (hval 2 23 v2 rfl rfl) h2
  obtain ⟨x3, rfl, rfl, rfl, wx3⟩ := open_int Yba.underlying23 (hval 3 23 v3 rfl rfl) h3
  obtain ⟨x4, rfl, rfl, rfl, wx4⟩ := open_int Yba.underlying3 (hval 4 3 v4 rfl rfl) h4
  obtain ⟨x5, rfl, rfl, rfl, wx5⟩ := open_int Yba.underlying3 (hval 5 3 v5 rfl rfl) h5
  clear hA0 hval0
  refine (walk a0 len0 cap0 S K x1 x2 x3 x4 x5 W w0 (bounds_u8 wx1).1 (bounds_u8 wx1).2).mono fun e W' ⟨he, bel⟩ => ?_
  subst he
  exact ⟨_, rfl, _, _, _, [], _, [], hW', trodAll_mk1 (shut_bool Yba.underlying4 _), (trodAll_cons_mk (Below.trod laidOut (by kernel_rfl) (of_decide_eq_true (by kernel_rfl)) k0 bel lt0) (trodAll_cons_mk (shut_int Yba.underlying5 wx1) (trodAll_cons_mk (shut_int Yba.underlying23 wx2) (trodAll_cons_mk (shut_int Yba.underlying23 wx3) (trodAll_cons_mk (shut_int Yba.underlying3 wx4) (trodAll_cons_mk (shut_int Yba.underlying3 wx5) trodAll_mk0)))))), rfl, bel.frame _, fun h => by cases h⟩

theorem over : Rows.lawS1899AFilterRow.holds Yba.pinned (OpenSpec.ofChange Rows.lawS1899AFilterSpec) :=
  OpenClaim.holds_of_wide 3 Yba.f3 rfl rfl rfl rfl rfl rfl rfl ⟨rfl, rfl, rfl, rfl, rfl⟩ rfl rfl rfl rfl rfl (by kernel_rfl) Yba.func3 (by kernel_rfl)
    (of_decide_eq_true (by kernel_rfl)) (by unfold Func.isWrapper; first | (rw [if_pos (by decide +kernel)]; kernel_rfl) | (rw [if_neg (by decide +kernel)]; exact ⟨rfl, rfl⟩))
    (fun os started H enc _ => lifted os started H enc)

/-- THE STATEMENT. -/
theorem proved : Rows.LawS1899AFilterSaid := over
end Go.Proofs.Ybulkamho.lawS1899AFilter
