/-
  The closed facts of the row FnStoreRollingBytes together. No condition.
-/
import Derived.Test.YtbehafhkgbjgmaaGreatDoorMb39
import Derived.Test.YtbehafhkgbjgmaaGreatDoorMb40
import Derived.Test.YtbehafhkgbjgmaaGreatDoorMb41
import Derived.Test.YtbehafhkgbjgmaaGreatDoorMb42
namespace Go.Proofs.YtbehafhkgbjgmaaGreatDoor.RollingB
open Go
set_option maxRecDepth 100000
theorem joined : joinedFacts Tryz.prog 4 Tryz.f4 (OpenSpec.ofChange Rows.fnStoreRollingBytesSpec).bare Rows.fnStoreRollingBytesRow = true := by
  unfold joinedFacts
  rw [j1, j2, j3, j4]
  kernel_rfl
end Go.Proofs.YtbehafhkgbjgmaaGreatDoor.RollingB
