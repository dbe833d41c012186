import Derived.Test.YbulkamhoRows
import Derived.Test.YbulkamhoOpen
import Derived.Test.YbulkamhoBLaw
import Derived.ShutString
import Derived.ChangeOld
namespace Go.Proofs.Ybulkamho.lawS1899BLayout
open Go.ChangeShapes Go.WideShapes Go.ChangeAt Go.RowKit Go.Deep
set_option linter.unusedVariables false

theorem own : ownKnob Yba.prog.godebug = none := by kernel_rfl
theorem laidOut : laidOutB Yba.prog = true := by kernel_rfl
theorem cells5 : Yba.prog.cellsOf 5 = 1 := by kernel_rfl
theorem cells28 : Yba.prog.cellsOf 28 = 8 := by kernel_rfl

section
variable {H : Type} {enc : TypeId × Value → H} {w : World} {base : Nat} {spare : Nat → Bool} {held : Bool}

/-- A handle's eight cells. -/
theorem open_handle {fuel : Nat} {cs : List Value} {x : DataW H × List MemPlace} (h : DataW.trod enc Yba.prog w base spare held fuel 28 cs = some x) :
    ∃ f : Nat → Int, ∀ j, j < 8 → cs[j]? = some (.int .u8 (f j)) ∧ (Lit.int .u8 (f j)).wf = true := by
  obtain ⟨xs, m, rfl, _, hlen, hxs, hel⟩ := DataW.trod_array Yba.underlying28 h
  rw [cells28] at hlen
  rw [cells5] at hel
  refine choose_lt (α := Int) (p := fun j f => cs[j]? = some (.int .u8 f) ∧ (Lit.int .u8 f).wf = true) fun j hj => ?_
  have h1 := hel j hj
  rw [List.getElem?_eq_getElem (by omega)] at h1
  obtain ⟨n, hn, _, hwf⟩ := DataW.trod_int Yba.underlying5 h1
  refine ⟨n, ?_, hwf⟩
  have : ((cs.drop (j * 1)).take 1)[0]? = some (.int .u8 n) := by rw [hn]; rfl
  simpa using this

theorem open_handles {fuel : Nat} {v : Value} {x : DataW H × List MemPlace} (h : DataW.trod enc Yba.prog w base spare held fuel 37 v.cells.toList = some x) :
    ∃ (a : Option Addr) (len cap : Nat) (F : Nat → Nat → Int), v.cells.toList = [.slice a len cap] ∧ HRow w.heap.size w a len F := by
  obtain ⟨a, len, cap, hv, _, _, hnil, hrow⟩ := open_plain Yba.underlying37 cells28 (by omega) h
  by_cases hp : 0 < len
  · obtain ⟨b, off, n, rfl, hel⟩ := hrow hp
    have : ∃ F : Nat → Nat → Int, ∀ i, i < len → ∀ j, j < 8 → w.cell? ⟨b, off + i * 8 + j, none⟩ = some (.int .u8 (F i j)) := by
      refine choose_lt (α := Nat → Int) (p := fun i f => ∀ j, j < 8 → w.cell? ⟨b, off + i * 8 + j, none⟩ = some (.int .u8 (f j))) fun i hi => ?_
      obtain ⟨cs', y, hl, hc, hy⟩ := hel i hi
      obtain ⟨f, hf⟩ := open_handle hy
      exact ⟨f, fun j hj => (hc j hj).trans (hf j hj).1⟩
    obtain ⟨F, hF⟩ := this
    refine ⟨_, len, cap, F, hv, fun _ => ⟨b, off, rfl, ?_, hF⟩⟩
    exact World.block_lt_of_cell? w _ (hF 0 hp 0 (by omega))
  · exact ⟨a, len, cap, fun _ _ => 0, hv, fun h => absurd h hp⟩

theorem open_bytes {fuel : Nat} {v : Value} {x : DataW H × List MemPlace} (h : DataW.trod enc Yba.prog w base spare held fuel 39 v.cells.toList = some x) :
    ∃ (a : Option Addr) (len cap : Nat) (Z : List Int), v.cells.toList = [.slice a len cap] ∧ BRow w a len cap Z := by
  rcases open_ints Yba.underlying39 Yba.underlying5 cells5 h with ⟨hcs, _⟩ | ⟨a, l, c, zs, hcs, _, hl, hm, hz, _, hcell, hwz⟩
  · exact ⟨none, 0, 0, [], hcs, rfl, fun _ => ⟨rfl, rfl⟩, fun ad h => (by cases h)⟩
  · refine ⟨some a, l, c, zs.take l, hcs, ?_, fun h => (by cases h), fun ad had j u hu => ?_⟩
    · rw [List.length_take]; have : l ≤ zs.length := by rw [hz]; split <;> omega
      omega
    · cases had
      have hj := (List.getElem?_eq_some_iff.1 hu).1
      simp at hj
      rw [hcell j (by omega), ← hu]
      have h1 : j < l := by omega
      have h2 : j < zs.length := by omega
      simp [h1, List.getElem?_eq_getElem h2]
end

set_option maxRecDepth 100000 in
set_option maxHeartbeats 400000 in
theorem walk (a0 : Option Addr) (len0 cap0 : Nat) (Z : List Int) (a1 : Option Addr) (len1 cap1 : Nat) (F : Nat → Nat → Int) (w : World)
    (h0 : BRow w a0 len0 cap0 Z) (h1 : HRow w.heap.size w a1 len1 F) :
    Calls Yba.prog 4 #[.slice a0 len0 cap0, .slice a1 len1 cap1] w fun e w' => e = .returned (.bool true) ∧ Below w.heap.size w w' := by
  by_cases hl0 : len0 ≤ 1024
  · by_cases hl1 : len1 ≤ 1024
    · exact lawB a0 len0 cap0 Z a1 len1 cap1 F w h0 h1 hl0 hl1
    · have hd0 : decide ((1024 : Int) < (len0 : Int)) = false := by simp; omega
      have hd1 : (1024 : Int) < (len1 : Int) := by omega
      go_enter Yba.func4, Yba.ntmps4
      go_wp2
      go_ret
      exact ⟨rfl, Below.refl _ _⟩
  · have hd0 : (1024 : Int) < (len0 : Int) := by omega
    go_enter Yba.func4, Yba.ntmps4
    go_wp2
    go_ret
    exact ⟨rfl, Below.refl _ _⟩

set_option maxRecDepth 100000 in
theorem lifted (os : Os) (started : os.Started) (H : Type) (enc : TypeId × Value → H) :
    ReturnsInHanded {} Yba.checked os 4 .any (Rows.lawS1899BLayoutSpec.pre6 enc Yba.prog Yba.f4 Rows.lawS1899BLayoutRow.domain false) (Rows.lawS1899BLayoutSpec.post enc Yba.prog Yba.f4 false true false false) := by
  refine returnsInHanded_of_change (C := Yba.checked) own started (by kernel_rfl) Yba.func4
    (ChangeSpec.witness6 (enc := enc) (C := Yba.checked) false ⟨#[], #[.slice none 0 0, .slice none 0 0], []⟩ 8 (by kernel_rfl) (by kernel_rfl) (by kernel_rfl) (by kernel_rfl)) ?_
  intro W base args ds gs before hval0 hW hcnd _
  have hval : ∀ (j : Nat) t v, Yba.f4.params[j]? = some t → args[j]? = some v → Value.okWide Yba.prog W .any base t v := hval0
  have hW' := hW
  obtain ⟨p, q, hA0, hV, rfl, hfz, hnd⟩ := hW
  have hA : DataW.TrodAll enc Yba.prog W 0 (fun _ => true) true Yba.f4.params.toList args.toList ds p := hA0
  rw [Yba.params4] at hA hval
  obtain ⟨v0, vs0, d0, ds0, p0, q0, hargs, rfl, rfl, h0, r0⟩ := trodAll_cons hA
  obtain ⟨v1, vs1, d1, ds1, p1, q1, rfl, rfl, rfl, h1, r1⟩ := trodAll_cons r0
  obtain ⟨rfl, rfl, rfl⟩ := trodAll_nil r1
  obtain rfl : args = #[v0, v1] := by cases args; simp_all
  obtain ⟨rfl, rfl⟩ := trodVars_none hV
  obtain ⟨a0, len0, cap0, rfl⟩ := okWide_slice Yba.underlying39 (hval 0 39 v0 rfl rfl)
  have k0 := h0
  have lt0 : ∀ x ∈ p0, x.block < W.heap.size := by obtain ⟨m, hm⟩ := k0; exact DataW.trod_lt m _ _ _ hm
  obtain ⟨Z, w0⟩ : ∃ Z, BRow W a0 len0 cap0 Z := by
    obtain ⟨fuel, hf⟩ := h0
    obtain ⟨a, l, c, Z, hcs, hb⟩ := open_bytes hf
    simp [Value.cells] at hcs
    obtain ⟨rfl, rfl, rfl⟩ := hcs
    exact ⟨Z, hb⟩
  obtain ⟨a1, len1, cap1, rfl⟩ := okWide_slice Yba.underlying37 (hval 1 37 v1 rfl rfl)
  have k1 := h1
  have lt1 : ∀ x ∈ p1, x.block < W.heap.size := by obtain ⟨m, hm⟩ := k1; exact DataW.trod_lt m _ _ _ hm
  obtain ⟨F, w1⟩ : ∃ F, HRow W.heap.size W a1 len1 F := by
    obtain ⟨fuel, hf⟩ := h1
    obtain ⟨a, l, c, F, hcs, hb⟩ := open_handles hf
    simp [Value.cells] at hcs
    obtain ⟨rfl, rfl, rfl⟩ := hcs
    exact ⟨F, hb⟩
  clear hA0 hval0
  refine (walk a0 len0 cap0 Z a1 len1 cap1 F W w0 w1).mono fun e W' ⟨he, bel⟩ => ?_
  subst he
  exact ⟨_, rfl, _, _, _, [], _, [], hW', trodAll_mk1 (shut_bool Yba.underlying4 _), (trodAll_cons_mk (Below.trod laidOut (by kernel_rfl) (of_decide_eq_true (by kernel_rfl)) k0 bel lt0) (trodAll_cons_mk (Below.trod laidOut (by kernel_rfl) (of_decide_eq_true (by kernel_rfl)) k1 bel lt1) trodAll_mk0)), rfl, bel.frame _, fun h => by cases h⟩

theorem over : Rows.lawS1899BLayoutRow.holds Yba.pinned (OpenSpec.ofChange Rows.lawS1899BLayoutSpec) :=
  OpenClaim.holds_of_wide 4 Yba.f4 rfl rfl rfl rfl rfl rfl rfl ⟨rfl, rfl, rfl, rfl, rfl⟩ rfl rfl rfl rfl rfl (by kernel_rfl) Yba.func4 (by kernel_rfl)
    (of_decide_eq_true (by kernel_rfl)) (by unfold Func.isWrapper; first | (rw [if_pos (by decide +kernel)]; kernel_rfl) | (rw [if_neg (by decide +kernel)]; exact ⟨rfl, rfl⟩))
    (fun os started H enc _ => lifted os started H enc)

/-- THE STATEMENT. -/
theorem proved : Rows.LawS1899BLayoutSaid := over
end Go.Proofs.Ybulkamho.lawS1899BLayout
