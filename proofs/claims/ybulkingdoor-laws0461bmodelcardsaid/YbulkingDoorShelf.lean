/-
  What the shelf gives at this program: math/bits.Add64.
-/
import Derived.Test.YbulkingDoorChecked
import Derived.Shelf.Spec.BitsCarry
import Derived.Shelf.Lay
import Derived.Ground.Names7Prog
namespace Go.Proofs.YbulkingDoor
open Go.Shelf
shelf_lay Lays7.n25 Nm7 25 at Ybad as Ybad.lays25
end Go.Proofs.YbulkingDoor
