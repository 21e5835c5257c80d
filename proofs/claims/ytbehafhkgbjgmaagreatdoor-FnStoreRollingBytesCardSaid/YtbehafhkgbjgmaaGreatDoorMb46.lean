/-
  A closed fact of the row FnStoreRollingBytes (in a text of its own: together they burst the memory). No condition.
-/
import Derived.Test.YtbehafhkgbjgmaaGreatDoorCards
import Derived.KernelRfl
import Derived.JoinedOf
namespace Go.Proofs.YtbehafhkgbjgmaaGreatDoor.RollingB
open Go
set_option maxRecDepth 100000
theorem j7 : Rows.fnStoreRollingBytesRow.wfByText (OpenSpec.ofChange Rows.fnStoreRollingBytesSpec) = true := by kernel_rfl
end Go.Proofs.YtbehafhkgbjgmaaGreatDoor.RollingB
