import Derived.Test.YbulkamhoRows
import Derived.Test.YbulkamhoCOpen
import Derived.Test.YbulkamhoCMatch
import Derived.ShutString
import Derived.ChangeOld
namespace Go.Proofs.Ybulkamho.lawS1899CMatchesModel
open Go.ChangeShapes Go.WideShapes Go.ChangeAt Go.RowKit Go.Deep
set_option linter.unusedVariables false

theorem own : ownKnob Yba.prog.godebug = none := by kernel_rfl
theorem laidOut : laidOutB Yba.prog = true := by kernel_rfl

set_option maxRecDepth 100000 in
theorem lifted (os : Os) (started : os.Started) (H : Type) (enc : TypeId × Value → H) :
    ReturnsInHanded {} Yba.checked os 5 .any (Rows.lawS1899CMatchesModelSpec.pre6 enc Yba.prog Yba.f5 Rows.lawS1899CMatchesModelRow.domain false) (Rows.lawS1899CMatchesModelSpec.post enc Yba.prog Yba.f5 false true false false) := by
  refine returnsInHanded_of_change (C := Yba.checked) own started (by kernel_rfl) Yba.func5
    (ChangeSpec.witness6 (enc := enc) (C := Yba.checked) false ⟨#[], #[.slice none 0 0, .int .u8 0, .agg #[.int .u8 0, .int .u32 0, .slice none 0 0, .slice none 0 0]], []⟩ 8 (by kernel_rfl) (by kernel_rfl) (by kernel_rfl) (by kernel_rfl)) ?_
  intro W base args ds gs before hval0 hW hcnd _
  have hval : ∀ (j : Nat) t v, Yba.f5.params[j]? = some t → args[j]? = some v → Value.okWide Yba.prog W .any base t v := hval0
  have hW' := hW
  obtain ⟨p, q, hA0, hV, rfl, hfz, hnd⟩ := hW
  have hA : DataW.TrodAll enc Yba.prog W 0 (fun _ => true) true Yba.f5.params.toList args.toList ds p := hA0
  rw [Yba.params5] at hA hval
  obtain ⟨v0, vs0, d0, ds0, p0, q0, hargs, rfl, rfl, h0, r0⟩ := trodAll_cons hA
  obtain ⟨v1, vs1, d1, ds1, p1, q1, rfl, rfl, rfl, h1, r1⟩ := trodAll_cons r0
  obtain ⟨v2, vs2, d2, ds2, p2, q2, rfl, rfl, rfl, h2, r2⟩ := trodAll_cons r1
  obtain ⟨rfl, rfl, rfl⟩ := trodAll_nil r2
  obtain rfl : args = #[v0, v1, v2] := by cases args; simp_all
  obtain ⟨rfl, rfl⟩ := trodVars_none hV
  obtain ⟨a0, len0, cap0, rfl⟩ := okWide_slice Yba.underlying51 (hval 0 51 v0 rfl rfl)
  have k0 := h0
  have lt0 : ∀ x ∈ p0, x.block < W.heap.size := by obtain ⟨m, hm⟩ := k0; exact DataW.trod_lt m _ _ _ hm
  obtain ⟨P, hml, w0⟩ : ∃ P, len0 ≤ maxLen ∧ PRow W.heap.size W a0 len0 P := by
    obtain ⟨fuel, hf⟩ := h0
    obtain ⟨a, l, c, P, hcs, hm, hb⟩ := open_raws hf
    simp [Value.cells] at hcs
    obtain ⟨rfl, rfl, rfl⟩ := hcs
    exact ⟨P, hm, hb⟩
  obtain ⟨x1, rfl, rfl, rfl, wx1⟩ := open_int Yba.underlying5 (hval 1 5 v1 rfl rfl) h1
  have k2 := h2
  have lt2 : ∀ x ∈ p2, x.block < W.heap.size := by obtain ⟨m, hm⟩ := k2; exact DataW.trod_lt m _ _ _ hm
  obtain ⟨cs, rfl, hsz⟩ := okWide_struct Yba.underlying53 (hval 2 53 v2 rfl rfl)
  obtain ⟨r, hr, hok⟩ : ∃ r : Raw, cs = #[.int .u8 r.s, .int .u32 r.k, .slice r.aA r.lA r.cA, .slice r.aR r.lR r.cR] ∧ RawOk W.heap.size W r := by
    obtain ⟨fuel, hf⟩ := h2
    obtain ⟨r, hcs, hok⟩ := open_raw hf
    refine ⟨r, ?_, hok⟩
    simp [Value.cells] at hcs
    obtain ⟨l⟩ := cs
    simpa using hcs
  subst hr
  obtain ⟨s, k, aA, lA, cA, XA, aR, lR, cR, XR⟩ := r
  clear hA0 hval0
  refine (matchWalk a0 len0 cap0 P x1 s k aA lA cA XA aR lR cR XR W hml w0 (bounds_u8 wx1).1 (bounds_u8 wx1).2 hok).mono fun e W' ⟨he, bel⟩ => ?_
  subst he
  exact ⟨_, rfl, _, _, _, [], _, [], hW', trodAll_mk1 (shut_bool Yba.underlying4 _), (trodAll_cons_mk (Below.trod laidOut (by kernel_rfl) (of_decide_eq_true (by kernel_rfl)) k0 bel lt0) (trodAll_cons_mk (shut_int Yba.underlying5 wx1) (trodAll_cons_mk (Below.trod laidOut (by kernel_rfl) (of_decide_eq_true (by kernel_rfl)) k2 bel lt2) trodAll_mk0))), rfl, bel.frame _, fun h => by cases h⟩

theorem over : Rows.lawS1899CMatchesModelRow.holds Yba.pinned (OpenSpec.ofChange Rows.lawS1899CMatchesModelSpec) :=
  OpenClaim.holds_of_wide 5 Yba.f5 rfl rfl rfl rfl rfl rfl rfl ⟨rfl, rfl, rfl, rfl, rfl⟩ rfl rfl rfl rfl rfl (by kernel_rfl) Yba.func5 (by kernel_rfl)
    (of_decide_eq_true (by kernel_rfl)) (by unfold Func.isWrapper; first | (rw [if_pos (by decide +kernel)]; kernel_rfl) | (rw [if_neg (by decide +kernel)]; exact ⟨rfl, rfl⟩))
    (fun os started H enc _ => lifted os started H enc)

/-- THE STATEMENT. -/
theorem proved : Rows.LawS1899CMatchesModelSaid := over
end Go.Proofs.Ybulkamho.lawS1899CMatchesModel
