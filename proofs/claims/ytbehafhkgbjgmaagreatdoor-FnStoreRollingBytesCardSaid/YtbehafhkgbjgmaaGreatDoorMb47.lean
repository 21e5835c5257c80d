/-
  The card of the law FnStoreRollingBytes: the row with its tie. Conditions: those of the given card.
-/
import Derived.Test.YtbehafhkgbjgmaaGreatDoorMb44
import Derived.Test.YtbehafhkgbjgmaaGreatDoorMb45
import Derived.Test.YtbehafhkgbjgmaaGreatDoorMb46
import Derived.Test.YtbehafhkgbjgmaaGreatDoorTie
namespace Go.Proofs.YtbehafhkgbjgmaaGreatDoor.RollingB
open Go Go.ChangeShapes Go.WideShapes Go.ChangeAt Go.RowKit
set_option maxRecDepth 100000
theorem card : Rows.FnStoreRollingBytesCardSaid :=
  Claim7.holds_tied_plain_at .later [] _ _ _ _ said (fun _ h => by cases h) j7 (fun _ h => by cases h) fnStoreRollingBytes_row_tie rfl ⟨rfl, rfl⟩ main6 rfl plain j5
end Go.Proofs.YtbehafhkgbjgmaaGreatDoor.RollingB
