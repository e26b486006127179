import Derived.Test.Qxb6603452aRows
import Derived.Shelf.Small.Strs
import Derived.Shelf.Lay
namespace Go.Proofs
open Go.Shelf
shelf_lay Lays.n106 Nm 106 at Try as Try.lays106
end Go.Proofs
