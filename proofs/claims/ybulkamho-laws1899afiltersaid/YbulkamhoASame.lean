import Derived.Test.YbulkamhoADrop2
namespace Go.Proofs.Ybulkamho
open Go.RowKit
set_option linter.unusedSimpArgs false

/-- What zzs1899asame reads of change t: its sender, its keyID, its prevID. -/
structure Reads (w : World) (g o : Nat) (x k p : Int) : Prop where
  c0 : w.cell? ⟨g, o, none⟩ = some (.int .u8 x)
  c1 : w.cell? ⟨g, o + 1, none⟩ = some (.int .u8 0)
  c2 : w.cell? ⟨g, o + 2, none⟩ = some (.int .u8 0)
  c3 : w.cell? ⟨g, o + 3, none⟩ = some (.int .u8 0)
  c4 : w.cell? ⟨g, o + 4, none⟩ = some (.int .u8 0)
  c5 : w.cell? ⟨g, o + 5, none⟩ = some (.int .u8 0)
  c6 : w.cell? ⟨g, o + 6, none⟩ = some (.int .u8 0)
  c7 : w.cell? ⟨g, o + 7, none⟩ = some (.int .u8 0)
  ck : w.cell? ⟨g, o + 8 + 15, none⟩ = some (.int .u32 k)
  cp : w.cell? ⟨g, o + 8 + 16, none⟩ = some (.int .u32 p)

theorem reads_of {w : World} {g o : Nat} {x k p : Int} (h : w.rangeAt g o (chg x k p)) : Reads w g o x k p :=
  ⟨h 0 _ rfl, h 1 _ rfl, h 2 _ rfl, h 3 _ rfl, h 4 _ rfl, h 5 _ rfl, h 6 _ rfl, h 7 _ rfl, h 23 _ rfl, h 24 _ rfl⟩

set_option maxRecDepth 100000 in
set_option maxHeartbeats 1600000 in
theorem sameSome (ga gb n ca cb : Nat) (X K P : Nat → Int) (w : World) (hn : n ≤ 1024)
    (ha : ∀ t, t < n → Reads w ga (t * 29) (X t) (K t) (P t)) (hb : ∀ t, t < n → Reads w gb (t * 29) (X t) (K t) (P t)) :
    Calls Yba.prog 10 #[.slice (some ⟨ga, 0, none⟩) n ca, .slice (some ⟨gb, 0, none⟩) n cb] w fun e w' => e = .returned (.bool true) ∧ ∃ m, w' = w.drewN m := by
  have heq := fun w a b => equal28 9998 a b w
  have hgd := eqGuard28
  go_enter Yba.func10, Yba.ntmps10
  go_wp2_with fail
  go_loopw [5] (fun i wx => ∃ t : Nat, t ≤ n ∧ i = .int .i64 t ∧ ∃ nq, wx = w.drewN nq) (fun i _ => n - (intOf i).toNat)
  case atStart => exact ⟨0, Nat.zero_le _, rfl, 0, rfl⟩
  case round =>
    obtain ⟨t, ht, rfl, nq, hwx⟩ := hrel
    subst hwx
    by_cases hlt : t < n
    · obtain ⟨a0, a1, a2, a3, a4, a5, a6, a7, ak, ap⟩ := ha t hlt
      obtain ⟨b0, b1, b2, b3, b4, b5, b6, b7, bk, bp⟩ := hb t hlt
      have hi1 : (t : Int) < (n : Int) := by omega
      clear ha hb
      go_wp2_with fail
      go_quiet (fail)
      go_wp2
      go_roundw
      case rel => exact ⟨t + 1, by omega, by go_num, _, rfl⟩
      case measure => simp [intOf]; omega
    · go_wp2
      go_ret
      exact ⟨rfl, _, rfl⟩
end Go.Proofs.Ybulkamho
