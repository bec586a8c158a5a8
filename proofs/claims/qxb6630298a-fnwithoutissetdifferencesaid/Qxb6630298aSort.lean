/-
  sort.Strings as it lies in this program.
-/
import Derived.Test.Qxb6630298aRows
import Derived.Shelf.Sort.Plain
import Derived.Shelf.Lay
namespace Go.Proofs
open Go.Shelf Go.Proofs.Qxb6630298a
shelf_lay Lays.n192 Nm 192 at Try as Try.lays192
end Go.Proofs
namespace Go.Proofs.Qxb6630298a
open Go.RowKit Go.Sort

theorem sortStrings (blk off cap : Nat) (ss : List (List UInt8)) (w : World) (hH : Holds encStr w blk off ss.toArray) (hblk : blk < w.heap.size) (hsz : ss.length < 4611686018427387904) :
    Calls Try.prog 23 #[.slice (some ⟨blk, off, none⟩) ss.length cap] w fun e w' =>
      e = .returned (.tuple #[]) ∧ ∃ n os, w' = grow (putRow encStr (Sort.ahead w n) blk off (ss.mergeSort fun x y => decide (x ≤ y)).toArray) os :=
  Any.sort_Strings Try.lays192 blk off cap ss w hH hblk hsz
end Go.Proofs.Qxb6630298a
