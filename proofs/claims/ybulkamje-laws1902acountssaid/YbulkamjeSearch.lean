import Derived.Shelf.Lay
import Derived.Ground.Names2Prog
import Derived.Shelf.Spec.SearchS
import Derived.Shelf.Slices.Clone
import Derived.Test.YbulkamjeProg
namespace Go.Proofs
open Go.Shelf Go.RowKit
shelf_lay Lays2.n26 Nm2 26 at Yba as Yba.lays226
shelf_lay Lays2.n16 Nm2 16 at Yba as Yba.lays216
namespace Ybulkamje
theorem searchS (b off n c : Nat) (Sx : Nat → ByteArray) (x : ByteArray) (w : World) (hbig : n < 4611686018427387904) (hc : ∀ j, j < n → w.cell? ⟨b, off + j, none⟩ = some (.string (Sx j))) :
    Calls Yba.prog 32 #[.slice (some ⟨b, off, none⟩) n c, .string x] w fun e w' =>
      e = .returned (.tuple #[.int .i64 (Lib.bsGo (fun t => Op.bytesLess (Sx t).toList x.toList) n 0 n : Nat), .bool (decide (Lib.bsGo (fun t => Op.bytesLess (Sx t).toList x.toList) n 0 n < n ∧ Sx (Lib.bsGo (fun t => Op.bytesLess (Sx t).toList x.toList) n 0 n) = x))]) ∧ ∃ q, w' = w.drewN q :=
  Any2.slices_BinarySearch_string Yba.lays226 b off n c Sx x w hbig hc
theorem cloneS (b off n c : Nat) (zs : List ByteArray) (w : World) (hz : n ≤ zs.length) (hbig : n * 16 ≤ 140737488355328) (hc : ∀ j, j < zs.length → w.cell? ⟨b, off + j, none⟩ = some (.string (zs.getD j ByteArray.empty))) :
    Calls Yba.prog 31 #[.slice (some ⟨b, off, none⟩) n c] w fun e w' => ∃ v', e = .returned v' ∧ w'.ownsRow w.heap.size 9 1 v' n ((zs.take n).map (Value.string)) ∧ v' ≠ .slice none 0 0 ∧ Below w.heap.size w w' :=
  Any.slices_Clone_string Yba.lays216 b off n c zs w hz hbig hc
end Ybulkamje
end Go.Proofs
