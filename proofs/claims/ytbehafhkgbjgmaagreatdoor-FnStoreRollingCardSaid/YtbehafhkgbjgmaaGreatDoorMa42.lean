/-
  The closed facts of the row FnStoreRolling together. No condition.
-/
import Derived.Test.YtbehafhkgbjgmaaGreatDoorMa38
import Derived.Test.YtbehafhkgbjgmaaGreatDoorMa39
import Derived.Test.YtbehafhkgbjgmaaGreatDoorMa40
import Derived.Test.YtbehafhkgbjgmaaGreatDoorMa41
namespace Go.Proofs.YtbehafhkgbjgmaaGreatDoor.Rolling
open Go
set_option maxRecDepth 100000
theorem joined : joinedFacts Tryz.prog 3 Tryz.f3 (OpenSpec.ofChange Rows.fnStoreRollingSpec).bare Rows.fnStoreRollingRow = true := by
  unfold joinedFacts
  rw [j1, j2, j3, j4]
  kernel_rfl
end Go.Proofs.YtbehafhkgbjgmaaGreatDoor.Rolling
