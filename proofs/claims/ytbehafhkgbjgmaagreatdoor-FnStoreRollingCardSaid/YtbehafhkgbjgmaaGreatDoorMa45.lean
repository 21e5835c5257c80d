/-
  A closed fact of the row FnStoreRolling (in a text of its own: together they burst the memory). No condition.
-/
import Derived.Test.YtbehafhkgbjgmaaGreatDoorCards
import Derived.KernelRfl
import Derived.JoinedOf
namespace Go.Proofs.YtbehafhkgbjgmaaGreatDoor.Rolling
open Go
set_option maxRecDepth 100000
theorem j7 : Rows.fnStoreRollingRow.wfByText (OpenSpec.ofChange Rows.fnStoreRollingSpec) = true := by kernel_rfl
end Go.Proofs.YtbehafhkgbjgmaaGreatDoor.Rolling
