import Derived.Test.Qxb6600360aIdx
import Derived.Test.Qxb6600360aShelf
import Derived.Test.Qxb6600360aW3
namespace Go.Proofs.Qxb6600360a
open Go.RowKit

theorem idxC : IdxC := fun s w hs => idxAny_two (P := Try.prog) Try.lays153 (by kernel_rfl) s 92 38 w (by decide) (by decide) hs

end Go.Proofs.Qxb6600360a
