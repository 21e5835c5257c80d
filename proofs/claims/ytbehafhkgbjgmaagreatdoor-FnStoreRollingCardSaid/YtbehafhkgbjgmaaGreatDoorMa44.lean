/-
  A closed fact of the row FnStoreRolling (in a text of its own: together they burst the memory). No condition.
-/
import Derived.Test.YtbehafhkgbjgmaaGreatDoorCards
import Derived.KernelRfl
import Derived.JoinedOf
namespace Go.Proofs.YtbehafhkgbjgmaaGreatDoor.Rolling
open Go
set_option maxRecDepth 100000
theorem j5 : false = Rows.fnStoreRollingRow.goesBy Tryz.prog := by kernel_rfl
end Go.Proofs.YtbehafhkgbjgmaaGreatDoor.Rolling
