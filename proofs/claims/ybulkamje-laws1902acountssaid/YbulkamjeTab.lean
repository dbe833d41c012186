import Derived.Test.YbulkamjeGroup
import Derived.Maps.RangeWalk
import Derived.Maps.OwnSet
import Derived.Maps.Views
namespace Go.Proofs.Ybulkamje
open Go.RowKit Go.Maps Go.WideMaps

/-- A group's name as a key. -/
def lit (i : Nat) : Lit := .string [103, UInt8.ofNat i]
theorem ofNat_inj {i j : Nat} (hi : i < 256) (hj : j < 256) (h : UInt8.ofNat i = UInt8.ofNat j) : i = j := by
  have := congrArg UInt8.toNat h
  simp at this
  omega
theorem lit_inj {i j : Nat} (hi : i < 256) (hj : j < 256) (h : lit i = lit j) : i = j := by
  simp only [lit, Lit.string.injEq, List.cons.injEq, and_true, true_and] at h
  exact ofNat_inj hi hj h
theorem keyOf_key (i : Nat) : keyOf Yba.prog 9 (.string (key i)) = some (lit i) := keyOf_string_mk Yba.underlying9 (by simp [key, ByteArray.size]; unfold maxLen; omega)
theorem K9 : Keyed Yba.prog 9 := string_keyed Yba.underlying9
theorem lit_same {i j : Nat} (hi : i < 256) (hj : j < 256) : (lit j).sameKey (lit i) = decide (j = i) := by
  rw [Bool.eq_iff_iff]
  constructor
  · intro h
    have : lit j = lit i := by simpa [lit, Lit.sameKey] using h
    simpa using lit_inj hj hi this
  · intro h
    have : j = i := by simpa using h
    subst this
    simp [lit, Lit.sameKey]

/-- How a pointer to a group reads. -/
def Rp : Value → Option (DataW Nat × List MemPlace)
  | .pointer (some ⟨b, 0, none⟩) => some (.lit (.int .i64 b), [])
  | .pointer none => some (.nil, [])
  | _ => none
/-- How a slice of names reads. -/
def Rs : Value → Option (DataW Nat × List MemPlace)
  | .slice (some ⟨b, 0, none⟩) n c => some (.agg [.lit (.int .i64 b), .lit (.int .i64 n), .lit (.int .i64 c)], [])
  | .slice none 0 0 => some (.nil, [])
  | _ => none
theorem Rp_inv {v : Value} {y : DataW Nat × List MemPlace} {b : Nat} (h : Rp v = some y) (hy : y.1 = .lit (.int .i64 b)) : v = .pointer (some ⟨b, 0, none⟩) := by
  unfold Rp at h
  split at h
  · rename_i b'
    cases h
    simp at hy
    have : b' = b := by omega
    rw [this]
  · cases h; cases hy
  · cases h
theorem Rs_inv {v : Value} {y : DataW Nat × List MemPlace} {b n c : Nat} (h : Rs v = some y) (hy : y.1 = .agg [.lit (.int .i64 b), .lit (.int .i64 n), .lit (.int .i64 c)]) : v = .slice (some ⟨b, 0, none⟩) n c := by
  unfold Rs at h
  split at h
  · rename_i b' n' c'
    cases h
    simp at hy
    obtain ⟨e1, e2, e3⟩ := hy
    have e1 : b' = b := by omega
    have e2 : n' = n := by omega
    have e3 : c' = c := by omega
    rw [e1, e2, e3]
  · cases h; cases hy
  · cases h

/-- The datum holds just the names of S, at i: f i. -/
structure Tab (D : DataW Nat) (S : Nat → Bool) (f : Nat → DataW Nat) : Prop where
  map : IsMap D
  has : ∀ kl, Maps.has D kl = true ↔ ∃ i, i < 256 ∧ S i = true ∧ kl = lit i
  at_ : ∀ i, i < 256 → S i = true → ∀ zd, D.atKey (lit i) zd = f i
theorem Tab.put {D : DataW Nat} {S : Nat → Bool} {f : Nat → DataW Nat} (h : Tab D S f) (i : Nat) (hi : i < 256) (d : DataW Nat) : Tab (D.put (lit i) d) (fun j => S j || decide (j = i)) (fun j => if j = i then d else f j) := by
  have hk : WideAt.IsKeyLit (lit i) := trivial
  refine ⟨h.map.put _ _, fun kl => ?_, fun j hj hs zd => ?_⟩
  · by_cases he : kl = lit i
    · subst he
      rw [has_put_same h.map hk]
      exact ⟨fun _ => ⟨i, hi, by simp, rfl⟩, fun _ => rfl⟩
    · rw [has_put_other he, h.has]
      constructor
      · rintro ⟨j, hj, hs, rfl⟩
        exact ⟨j, hj, by simp [hs], rfl⟩
      · rintro ⟨j, hj, hs, rfl⟩
        have hne : j ≠ i := fun e => he (by rw [e])
        exact ⟨j, hj, by simpa [hne] using hs, rfl⟩
  · by_cases he : j = i
    · subst he
      rw [atKey_put_same h.map hk]; simp
    · have hne : lit j ≠ lit i := fun e => he (lit_inj hj hi e)
      rw [atKey_put_other hne, if_neg he]
      exact h.at_ j hj (by simpa [he] using hs) zd

/-- What has been added up, in whatever order, while 'left' are still to come. -/
def doneSum (f : Nat → Int) (left : Lit → Bool) : Nat → Int
  | 0 => 0
  | n + 1 => doneSum f left n + (if left (lit n) then 0 else f n)
theorem doneSum_other (f : Nat → Int) (left : Lit → Bool) (i : Nat) (hi : i < 256) : ∀ n, n ≤ i → doneSum f (fun z => left z && !z.sameKey (lit i)) n = doneSum f left n
  | 0, _ => rfl
  | n + 1, h => by
    unfold doneSum
    rw [doneSum_other f left i hi n (by omega), lit_same hi (by omega)]
    simp [show n ≠ i by omega]
theorem doneSum_step (f : Nat → Int) (left : Lit → Bool) (i : Nat) (hl : left (lit i) = true) : ∀ n, i < n → n ≤ 256 → doneSum f (fun z => left z && !z.sameKey (lit i)) n = doneSum f left n + f i
  | 0, h, _ => by omega
  | n + 1, h, hn => by
    unfold doneSum
    by_cases he : n = i
    · subst he
      rw [doneSum_other f left n (by omega) n (Nat.le_refl _), lit_same (by omega) (by omega)]
      simp [hl]
    · rw [doneSum_step f left i hl n (by omega) (by omega), lit_same (by omega) (by omega)]
      simp [he]
      omega
theorem doneSum_none (f : Nat → Int) (left : Lit → Bool) : ∀ n, (∀ i, i < n → left (lit i) = true) → doneSum f left n = 0
  | 0, _ => rfl
  | n + 1, h => by
    unfold doneSum
    rw [doneSum_none f left n (fun i hi => h i (by omega)), h n (by omega)]
    simp
def total (f : Nat → Int) : Nat → Int
  | 0 => 0
  | n + 1 => total f n + f n
theorem doneSum_all (f : Nat → Int) (left : Lit → Bool) (h : ∀ kl, left kl = false) : ∀ n, doneSum f left n = total f n
  | 0 => rfl
  | n + 1 => by
    unfold doneSum total
    rw [doneSum_all f left h n, h]
    simp
end Go.Proofs.Ybulkamje
