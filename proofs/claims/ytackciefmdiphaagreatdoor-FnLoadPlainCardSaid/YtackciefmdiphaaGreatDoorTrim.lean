/- bytes.TrimPrefix, by the shelf. -/
import Derived.Test.YtackciefmdiphaaGreatDoorProg
import Derived.WalkKit
import Derived.Ground.NamesProg
import Derived.Shelf.Lay
import Derived.Shelf.Bytes.SlSmallAll
namespace Go.Proofs
open Go.Shelf
shelf_lay Lays.nb139 Nm 139 at Tryz as Tryz.lays139
end Go.Proofs
namespace Go.Proofs.YtackciefmdiphaaGreatDoor
open Go.RowKit
theorem trim_any (p1 p2 : Option Addr) (n c m d : Nat) (xs ys : List Int) (w : World) (hx : xs.length = n) (hy : ys.length = m) (hnc : n ≤ c) (h1 : Lib.BytesIn w p1 n xs) (h2 : Lib.BytesIn w p2 m ys) :
    Calls Tryz.prog 76 #[.slice p1 n c, .slice p2 m d] w fun e w' => e = .returned (Lib.trimPrefixV p1 n c xs ys) ∧ w' = w := by
  have hcon := Any.bytes_TrimPrefix_all Tryz.lays139 p1 p2 n c m d xs ys w hx hy hnc h1 h2
  change Calls Tryz.prog 76 _ _ _ at hcon
  exact hcon
end Go.Proofs.YtackciefmdiphaaGreatDoor
