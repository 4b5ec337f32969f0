/-
  Laid by the shelf's tool at this seat's translation, and cut down to what is wanted: slices.Sort and slices.Reverse at []int, as theorems of this program.
-/
import Derived.Shelf.Lay
import Derived.Shelf.Sort.Plain
import Derived.Shelf.Slices.Reverse
import Derived.Shelf.Slices.In.SortNone
import Derived.Test.YbulkamqsProg
namespace Go.Proofs
open Go.Shelf
shelf_lay Lays.n189 Nm 189 at Yba as Yba.lays189
open Go.Sort Go.RowKit in
theorem Yba.slices_Sort_int (blk off cap : Nat) (zs : List Int) (w : World) (hH : Holds (Value.int .i64) w blk off zs.toArray) (hblk : blk < w.heap.size) (hsz : zs.length < 4611686018427387904) :
    Calls Yba.prog 5 #[.slice (some ⟨blk, off, none⟩) zs.length cap] w fun e w' =>
      e = .returned (.tuple #[]) ∧ ∃ n os, w' = grow (putRow (Value.int .i64) (Sort.ahead w n) blk off (zs.mergeSort fun x y => decide (x ≤ y)).toArray) os := Any.slices_Sort_int Yba.lays189 blk off cap zs w hH hblk hsz
shelf_lay Lays.n112 Nm 112 at Yba as Yba.lays112
open Go.RowKit Go.Lib Go.Sort in
theorem Yba.slices_Reverse_int (blk off cap : Nat) (zs : List Int) (w : World) (hH : Holds (Value.int .i64) w blk off zs.toArray) (hsz : zs.length ≤ 9223372036854775807) :
    Calls Yba.prog 6 #[.slice (some ⟨blk, off, none⟩) zs.length cap] w fun e w' => e = .returned (.tuple #[]) ∧ ∃ n, w' = putRow (Value.int .i64) (Sort.ahead w n) blk off zs.reverse.toArray := Any.slices_Reverse_int Yba.lays112 blk off cap zs w hH hsz
end Go.Proofs
