import Derived.Test.Qxb6603720aRows
import Derived.Shelf.Sort.Plain
import Derived.Shelf.Lay
namespace Go.Proofs
open Go.Shelf
shelf_lay Lays.n189 Nm 189 at Try as Try.lays189
end Go.Proofs
