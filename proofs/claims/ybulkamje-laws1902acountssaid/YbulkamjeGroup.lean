import Derived.Test.YbulkamjeSmall
import Derived.BigQuiet
namespace Go.Proofs.Ybulkamje
open Go.RowKit

/-- A row whose cells a function tells. -/
def rowV (n : Nat) (V : Nat → Value) : Array Value := ((List.range n).map V).toArray
theorem rowV_at (n : Nat) (V : Nat → Value) (p : Nat) (h : p < n) : (rowV n V)[p]? = some (V p) := by simp [rowV, h]
theorem rowV_size (n : Nat) (V : Nat → Value) : (rowV n V).size = n := by simp [rowV]
def updV {α : Type} (V : Nat → α) (p : Nat) (v : α) : Nat → α := fun i => if i = p then v else V i
theorem rowV_set (n : Nat) (V : Nat → Value) (p : Nat) (v : Value) : (rowV n V).setIfInBounds p v = rowV n (updV V p v) := by
  apply Array.ext
  · simp [rowV]
  · intro i h1 h2
    simp [rowV] at h1
    simp only [rowV, List.setIfInBounds_toArray, List.getElem_toArray, List.getElem_set, List.getElem_map, List.getElem_range, updV]
    by_cases h : p = i
    · subst h; simp
    · simp [h, Ne.symm h]

/-- Where a group lies. -/
structure Shape where
  n : Nat
  G : Nat
  ms : Nat
  cm : Nat
  kp : Nat
  dr : Nat
  ak : Nat
  lo : Nat
  hi : Nat
  ar : Nat → Nat

/-- A group: D: the dropped counts; K: how many are kept; A: the acks. -/
structure Grp (w : World) (s : Shape) (D : Nat → Int) (K : Nat → Nat) (A : Nat → Nat → Int) : Prop where
  g : ∃ cs : Array Value, w.heap[s.G]? = some (.cells cs 57 (0, 0)) ∧ cs[1]? = some (.int .i64 0) ∧ cs[2]? = some (.slice (some ⟨s.ms, 0, none⟩) s.n s.cm) ∧ cs[10]? = some (.slice (some ⟨s.kp, 0, none⟩) s.n s.n) ∧
    cs[11]? = some (.slice (some ⟨s.dr, 0, none⟩) s.n s.n) ∧ cs[14]? = some (.slice (some ⟨s.ak, 0, none⟩) s.n s.n)
  kept : ∃ V, w.heap[s.kp]? = some (.cells (rowV s.n V) 59 (0, 0)) ∧ ∀ p, p < s.n → ∃ a, V p = .slice a (K p) (K p)
  drop : w.heap[s.dr]? = some (.cells (rowV s.n fun p => .int .u64 (D p)) 25 (0, 0))
  acks : w.heap[s.ak]? = some (.cells (rowV s.n fun m => .slice (some ⟨s.ar m, 0, none⟩) s.n s.n) 43 (0, 0))
  ack : ∀ m, m < s.n → w.heap[s.ar m]? = some (.cells (rowV s.n fun p => .int .u64 (A m p)) 25 (0, 0))
  inj : ∀ m m', m < s.n → m' < s.n → s.ar m = s.ar m' → m = m'
  ne : ∀ m, m < s.n → s.ar m ≠ s.dr
  one : 1 ≤ s.n
  four : s.n ≤ 4
  bG : s.lo ≤ s.G ∧ s.G < s.hi
  bkp : s.lo ≤ s.kp ∧ s.kp < s.hi
  bdr : s.lo ≤ s.dr ∧ s.dr < s.hi
  bak : s.lo ≤ s.ak ∧ s.ak < s.hi
  bar : ∀ m, m < s.n → s.lo ≤ s.ar m ∧ s.ar m < s.hi

theorem Grp.keep {w w' : World} {s : Shape} {D : Nat → Int} {K : Nat → Nat} {A : Nat → Nat → Int} (h : Grp w s D K A) (hk : ∀ b, s.lo ≤ b → b < s.hi → w'.heap[b]? = w.heap[b]?) : Grp w' s D K A := by
  obtain ⟨cs, h1, h2⟩ := h.g
  obtain ⟨V, k1, k2⟩ := h.kept
  exact ⟨⟨cs, (hk _ h.bG.1 h.bG.2).trans h1, h2⟩, ⟨V, (hk _ h.bkp.1 h.bkp.2).trans k1, k2⟩, (hk _ h.bdr.1 h.bdr.2).trans h.drop, (hk _ h.bak.1 h.bak.2).trans h.acks, fun m hm => (hk _ (h.bar m hm).1 (h.bar m hm).2).trans (h.ack m hm),
    h.inj, h.ne, h.one, h.four, h.bG, h.bkp, h.bdr, h.bak, h.bar⟩

/-! ### What a walk reads -/
section
variable {w : World} {s : Shape} {D : Nat → Int} {K : Nat → Nat} {A : Nat → Nat → Int} (h : Grp w s D K A)
include h
theorem Grp.cself : w.cell? ⟨s.G, 1, none⟩ = some (.int .i64 0) := by obtain ⟨cs, h1, h2⟩ := h.g; rw [cell_of_row w s.G 1 _ 57 (0, 0) h1]; exact h2.1
theorem Grp.cmem : w.cell? ⟨s.G, 2, none⟩ = some (.slice (some ⟨s.ms, 0, none⟩) s.n s.cm) := by obtain ⟨cs, h1, h2⟩ := h.g; rw [cell_of_row w s.G 2 _ 57 (0, 0) h1]; exact h2.2.1
theorem Grp.ckept : w.cell? ⟨s.G, 10, none⟩ = some (.slice (some ⟨s.kp, 0, none⟩) s.n s.n) := by obtain ⟨cs, h1, h2⟩ := h.g; rw [cell_of_row w s.G 10 _ 57 (0, 0) h1]; exact h2.2.2.1
theorem Grp.cdrop : w.cell? ⟨s.G, 11, none⟩ = some (.slice (some ⟨s.dr, 0, none⟩) s.n s.n) := by obtain ⟨cs, h1, h2⟩ := h.g; rw [cell_of_row w s.G 11 _ 57 (0, 0) h1]; exact h2.2.2.2.1
theorem Grp.cacks : w.cell? ⟨s.G, 14, none⟩ = some (.slice (some ⟨s.ak, 0, none⟩) s.n s.n) := by obtain ⟨cs, h1, h2⟩ := h.g; rw [cell_of_row w s.G 14 _ 57 (0, 0) h1]; exact h2.2.2.2.2
theorem Grp.dropAt (p : Nat) (hp : p < s.n) : w.cell? ⟨s.dr, p, none⟩ = some (.int .u64 (D p)) := by rw [cell_of_row w s.dr p _ 25 (0, 0) h.drop, rowV_at _ _ p hp]
theorem Grp.keptAt (p : Nat) (hp : p < s.n) : ∃ a, w.cell? ⟨s.kp, p, none⟩ = some (.slice a (K p) (K p)) := by
  obtain ⟨V, k1, k2⟩ := h.kept
  obtain ⟨a, ha⟩ := k2 p hp
  exact ⟨a, by rw [cell_of_row w s.kp p _ 59 (0, 0) k1, rowV_at _ _ p hp, ha]⟩
theorem Grp.acksAt (m : Nat) (hm : m < s.n) : w.cell? ⟨s.ak, m, none⟩ = some (.slice (some ⟨s.ar m, 0, none⟩) s.n s.n) := by rw [cell_of_row w s.ak m _ 43 (0, 0) h.acks, rowV_at _ _ m hm]
theorem Grp.ackAt (m p : Nat) (hm : m < s.n) (hp : p < s.n) : w.cell? ⟨s.ar m, p, none⟩ = some (.int .u64 (A m p)) := by rw [cell_of_row w (s.ar m) p _ 25 (0, 0) (h.ack m hm), rowV_at _ _ p hp]
end

set_option maxRecDepth 100000 in
set_option maxHeartbeats 800000 in
/-- received. -/
theorem receivedC (s : Shape) (D : Nat → Int) (K : Nat → Nat) (A : Nat → Nat → Int) (p : Nat) (w : World) (h : Grp w s D K A) (hp : p < s.n) (hD0 : 0 ≤ D p) (hD1 : D p ≤ 100000) (hK : K p ≤ 100000) :
    Calls Yba.prog 14 #[.pointer (some ⟨s.G, 0, none⟩), .int .i64 p] w fun e w' => e = .returned (.int .u64 (D p + K p)) ∧ ∃ q, w' = w.drewN q := by
  have c10 := h.ckept
  have c11 := h.cdrop
  have cd := h.dropAt p hp
  obtain ⟨a, ck⟩ := h.keptAt p hp
  have h4 := h.four
  clear h
  obtain ⟨n, G, ms, cm, kp, dr, ak, lo, hi, ar⟩ := s
  simp only at c10 c11 cd ck h4 hp ⊢
  generalize D p = d at *
  generalize K p = kk at *
  have hi0 : (0 : Int) ≤ (p : Int) := by omega
  have hi1 : (p : Int) < (n : Int) := by omega
  go_enter Yba.func14, Yba.ntmps14
  go_wp2_with fail
  go_quiet (fail)
  go_wp2
  go_ret
  exact ⟨rfl, _, rfl⟩

theorem Grp.drewN {w : World} {s : Shape} {D : Nat → Int} {K : Nat → Nat} {A : Nat → Nat → Int} (h : Grp w s D K A) (q : Nat) : Grp (w.drewN q) s D K A := h.keep (fun _ _ _ => rfl)

/-- What is stable of what came from place p: the model's answer. -/
def stabTo (r : Int) (A : Nat → Nat → Int) (p : Nat) : Nat → Int
  | 0 => r
  | m + 1 => if m ≠ 0 ∧ m ≠ p then min (stabTo r A p m) (A m p) else stabTo r A p m
theorem stabTo_bounds (r : Int) (A : Nat → Nat → Int) (p : Nat) (hr : 0 ≤ r) : ∀ m, (∀ j, j < m → 0 ≤ A j p) → 0 ≤ stabTo r A p m ∧ stabTo r A p m ≤ r
  | 0, _ => ⟨hr, Int.le_refl _⟩
  | m + 1, h => by
    have ih := stabTo_bounds r A p hr m (fun j hj => h j (by omega))
    have := h m (by omega)
    unfold stabTo
    split <;> omega

set_option maxRecDepth 100000 in
set_option maxHeartbeats 800000 in
/-- stable. -/
theorem stableC (s : Shape) (D : Nat → Int) (K : Nat → Nat) (A : Nat → Nat → Int) (p : Nat) (w : World) (h : Grp w s D K A) (hp : p < s.n) (hD0 : 0 ≤ D p) (hD1 : D p ≤ 100000) (hK : K p ≤ 100000) (hA : ∀ m, m < s.n → 0 ≤ A m p ∧ A m p ≤ 1000000) :
    Calls Yba.prog 15 #[.pointer (some ⟨s.G, 0, none⟩), .int .i64 p] w fun e w' => e = .returned (.int .u64 (stabTo (D p + K p) A p s.n)) ∧ ∃ q, w' = w.drewN q := by
  have HR := receivedC s D K A p w h hp hD0 hD1 hK
  have HG : Hid (Grp w s D K A) := h
  have c1 := h.cself
  have c14 := h.cacks
  have h4 := h.four
  have HA : Hid (∀ m, m < s.n → w.cell? ⟨s.ak, m, none⟩ = some (.slice (some ⟨s.ar m, 0, none⟩) s.n s.n) ∧ w.cell? ⟨s.ar m, p, none⟩ = some (.int .u64 (A m p))) := fun m hm => ⟨h.acksAt m hm, h.ackAt m p hm hp⟩
  clear h
  obtain ⟨n, G, ms, cm, kp, dr, ak, lo, hi, ar⟩ := s
  simp only at c1 c14 h4 hp hA HA HR ⊢
  obtain ⟨r, hr⟩ : ∃ r, r = D p + K p := ⟨_, rfl⟩
  rw [← hr] at HR
  have hr0 : 0 ≤ r := by omega
  have hr1 : r ≤ 200000 := by omega
  rw [← hr]
  clear hr HG
  go_enter Yba.func15, Yba.ntmps15
  go_wp2_with (go_at_call 14; refine HR.mono ?_; rintro e w1 ⟨rfl, q0, rfl⟩)
  go_loopg [5, 16] n (fun g v i wr => ∃ m q : Nat, g = n - m ∧ m ≤ n ∧ i = .int .i64 m ∧ v = .int .u64 (stabTo r A p m) ∧ wr = w.drewN q)
  case atStart => exact ⟨0, q0, by omega, Nat.zero_le _, rfl, rfl, rfl⟩
  case round =>
    obtain ⟨m, q, rfl, hm, rfl, rfl, rfl⟩ := hrel
    have hb := stabTo_bounds r A p hr0 m (fun j hj => (hA j (by omega)).1)
    by_cases hlt : m < n
    · obtain ⟨ca, cb⟩ := HA.out m hlt
      obtain ⟨a0, a1⟩ := hA m hlt
      have HS : Hid (stabTo r A p (m + 1) = if m ≠ 0 ∧ m ≠ p then min (stabTo r A p m) (A m p) else stabTo r A p m) := rfl
      generalize stabTo r A p m = x at *
      generalize A m p = y at *
      have hi0 : (0 : Int) ≤ (m : Int) := by omega
      have hi1 : (m : Int) < (n : Int) := by omega
      have hj0 : (0 : Int) ≤ (p : Int) := by omega
      have hj1 : (p : Int) < (n : Int) := by omega
      clear HA hA HR
      by_cases hm0 : m = 0
      · subst hm0
        have HT : Hid (stabTo r A p (0 + 1) = x) := by have := HS.out; simp at this; exact this
        go_wp2
        go_roundg (n - (0 + 1))
        case measure => omega
        case rel => exact ⟨0 + 1, q, rfl, by omega, by go_num, by rw [HT.out], rfl⟩
      · have hdm : (((m : Nat) : Int) != 0) = true := by simpa using hm0
        by_cases hmp : m = p
        · subst hmp
          have HT : Hid (stabTo r A m (m + 1) = x) := by have := HS.out; simp at this; exact this
          go_wp2
          go_roundg (n - (m + 1))
          case measure => omega
          case rel => exact ⟨m + 1, q, rfl, by omega, by go_num, by rw [HT.out], rfl⟩
        · have hdp : (((m : Nat) : Int) != ((p : Nat) : Int)) = true := by simp; omega
          have HT : Hid (stabTo r A p (m + 1) = min x y) := by have := HS.out; rw [if_pos ⟨hm0, hmp⟩] at this; exact this
          by_cases hxy : y < x
          · have HT2 : Hid (min x y = y) := by simp only [Hid]; omega
            go_wp2
            go_roundg (n - (m + 1))
            case measure => omega
            case rel => exact ⟨m + 1, q, rfl, by omega, by go_num, by rw [HT.out, HT2.out], rfl⟩
          · have HT2 : Hid (min x y = x) := by simp only [Hid]; omega
            go_wp2
            go_roundg (n - (m + 1))
            case measure => omega
            case rel => exact ⟨m + 1, q, rfl, by omega, by go_num, by rw [HT.out, HT2.out], rfl⟩
    · obtain rfl : n = m := by omega
      go_wp2
      go_ret
      exact ⟨rfl, q, rfl⟩
end Go.Proofs.Ybulkamje
