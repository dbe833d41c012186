import Derived.Test.YbulkamhoProg
import Derived.WalkKit
import Derived.ProofKit
import Derived.OpenShut
import Derived.Deep.Slices
import Derived.Below
namespace Go.Proofs.Ybulkamho
open Go.ChangeShapes Go.WideShapes Go.ChangeAt Go.RowKit Go.Deep

section
variable {H : Type} {enc : TypeId × Value → H} {w : World} {base : Nat} {spare : Nat → Bool} {held : Bool}

/-- A slice whose elements take 'c' cells each (c > 0), opened: with an element its address is plain, and element i's cells stand as 'trod' reads them. -/
theorem open_plain {t e : TypeId} {fuel c : Nat} {v : Value} {x : DataW H × List MemPlace} (ht : Yba.prog.underlying t = some (.slice e)) (hc : Yba.prog.cellsOf e = c) (hpos : 0 < c)
    (h : DataW.trod enc Yba.prog w base spare held fuel t v.cells.toList = some x) :
    ∃ (a : Option Addr) (len cap : Nat), v.cells.toList = [.slice a len cap] ∧ len ≤ cap ∧ cap ≤ maxLen ∧ (a = none → len = 0 ∧ cap = 0) ∧
      (0 < len → ∃ b off n, a = some ⟨b, off, none⟩ ∧ ∀ i, i < len → ∃ cs' y, cs'.length = c ∧ (∀ j, j < c → w.cell? ⟨b, off + i * c + j, none⟩ = cs'[j]?) ∧ DataW.trod enc Yba.prog w base spare held n e cs' = some y) := by
  rcases open_slice ht h with ⟨hcs, _⟩ | ⟨a, len, cap, m, n, D, Pl, hcs, _, hl, hm, hmm, _, hel⟩
  · exact ⟨none, 0, 0, hcs, Nat.le_refl _, Nat.zero_le _, fun _ => ⟨rfl, rfl⟩, fun h => absurd h (by omega)⟩
  · refine ⟨some a, len, cap, hcs, hl, hm, fun h => (by cases h), fun hp => ?_⟩
    have hml : len ≤ m := by rw [hmm]; split <;> omega
    subst hc
    obtain ⟨cs0, hcs0, _⟩ := hel 0 (by omega)
    have hs0 := World.cells?_some hcs0
    obtain ⟨b, off, spot⟩ := a
    have hspot : spot = none := by
      have h1 := hs0.2.2 0 (by omega)
      have h2 : (cs0)[0]? = some (cs0[0]'(by omega)) := List.getElem?_eq_getElem _
      rw [h2] at h1
      have := World.cell?_spot h1
      simpa [Addr.add] using this
    subst hspot
    refine ⟨b, off, n, rfl, fun i hi => ?_⟩
    obtain ⟨cs', hcs', hy⟩ := hel i (by omega)
    have hs := World.cells?_some hcs'
    refine ⟨cs', _, hs.2.1, fun j hj => ?_, hy⟩
    have := hs.2.2 j hj
    rwa [add_plain, add_plain] at this
end
end Go.Proofs.Ybulkamho
