import Derived.Test.YbulkamjeProg
import Derived.WalkKit
import Derived.WalkSpells
import Derived.Below
import Derived.Deep.LoopGhost
namespace Go.Proofs.Ybulkamje
open Go.RowKit

/-- Bytes that came in. -/
def BY (B : Nat) (w : World) (a : Option Addr) (len : Nat) (X : Nat → Int) : Prop :=
  0 < len → ∃ b off, a = some ⟨b, off, none⟩ ∧ b < B ∧ ∀ i, i < len → w.cell? ⟨b, off + i, none⟩ = some (.int .u8 (X i)) ∧ 0 ≤ X i ∧ X i ≤ 255
theorem BY.later {B : Nat} {w w' : World} {a : Option Addr} {len : Nat} {X : Nat → Int} (h : BY B w a len X) (hb : Below B w w') : BY B w' a len X := by
  intro hp
  obtain ⟨b, off, ha, hbb, hc⟩ := h hp
  exact ⟨b, off, ha, hbb, fun i hi => ⟨(hb.cell (by exact hbb)).trans (hc i hi).1, (hc i hi).2⟩⟩

/-- A group's name. -/
def key (i : Nat) : ByteArray := ⟨#[103, UInt8.ofNat i]⟩

set_option maxRecDepth 100000 in
set_option maxHeartbeats 400000 in
theorem nameC (i : Nat) (w : World) (hi : i < 256) :
    Calls Yba.prog 8 #[.int .i64 i] w fun e w' => e = .returned (.string (key i)) ∧ w' = w.alloc (.cells #[.int .u8 103, .int .u8 i] 5) := by
  have hm : (i : Int) % 256 = i := by omega
  have hconv := fun (W : World) (h : ∀ j (hj : j < 2), W.cell? ((⟨w.heap.size, 0, none⟩ : Addr).add j) = some (.int .u8 (([103, UInt8.ofNat i][j]'hj).toNat : Int))) => run_convert_bytes_back (P := Yba.prog) W 22 9 5 ⟨w.heap.size, 0, none⟩ 2 [103, UInt8.ofNat i] Yba.underlying22 Yba.underlying5 Yba.underlying9 h
  have hc := hconv (w.alloc (.cells #[.int .u8 103, .int .u8 i] 5)) (fun j hj => by
    have e : (⟨w.heap.size, 0, none⟩ : Addr).add j = ⟨w.heap.size, j, none⟩ := by unfold Addr.add; split <;> simp_all
    rw [e, World.cell?_alloc_at _ _ _ _ rfl]
    have : j = 0 ∨ j = 1 := by omega
    rcases this with rfl | rfl
    · rfl
    · simp; omega)
  have hc2 : (convert 22 9 (.slice (some ⟨w.heap.size, 0, none⟩) 2 2)).run Yba.prog (w.alloc (.cells #[.int .u8 103, .int .u8 i] 5)) = .ok (.string ⟨#[103, UInt8.ofNat i]⟩) (w.alloc (.cells #[.int .u8 103, .int .u8 i] 5)) := hc
  clear hconv hc
  go_enter Yba.func8, Yba.ntmps8
  go_wp2
  go_ret
  exact ⟨rfl, rfl⟩

/-- What the law picks. -/
def pick (X : Nat → Int) (len c : Nat) : Int := if len = 0 then 0 else X (c % len)

set_option maxRecDepth 100000 in
set_option maxHeartbeats 400000 in
theorem pickC (a : Option Addr) (len cap : Nat) (X : Nat → Int) (c : Nat) (w : World) (hlen : len ≤ 1024) (hc : c < 1000000) (h : BY w.heap.size w a len X) :
    Calls Yba.prog 9 #[.slice a len cap, .int .i64 c] w fun e w' => e = .returned (.int .u64 (pick X len c)) ∧ w' = w := by
  by_cases hz : len = 0
  · subst hz
    go_enter Yba.func9, Yba.ntmps9
    go_wp2
    go_ret
    exact ⟨rfl, rfl⟩
  · obtain ⟨b, off, rfl, hb, hx⟩ := h (by omega)
    have hlt : c % len < len := Nat.mod_lt _ (by omega)
    obtain ⟨cx, x0, x1⟩ := hx (c % len) hlt
    have e1 : ((c : Int) % (len : Int)) = ((c % len : Nat) : Int) := by simp
    have hne : ¬ ((len : Int) = 0) := by omega
    have hd : decide ((len : Int) = 0) = false := by simpa using hne
    have hp : pick X len c = X (c % len) := by simp [pick, hz]
    rw [hp]
    generalize X (c % len) = x at *
    generalize c % len = m at *
    have hi1 : (m : Int) < (len : Int) := by omega
    have hi0 : (0 : Int) ≤ (m : Int) := by omega
    clear hx
    go_enter Yba.func9, Yba.ntmps9
    go_wp2
    go_ret
    exact ⟨rfl, rfl⟩
end Go.Proofs.Ybulkamje
