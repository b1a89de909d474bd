/-
  What the shelf gives at this program: slices.SortFunc at a struct.
-/
import Derived.Test.YbulkingDoorChecked
import Derived.Shelf.SlSortCmp.WholeK
import Derived.Shelf.Lay
import Derived.Ground.SlsfProg
namespace Go.Proofs.YbulkingDoor
open Go.Shelf
shelf_lay_g SlLaysF0.n6 Slsf 6 at Ybad 17 as Ybad.sortR
end Go.Proofs.YbulkingDoor
