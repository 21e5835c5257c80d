/-
  The ways of 'insert' at a node with children, together. No condition.
-/
import Derived.Test.YtbehafhkgbjgmaaGreatDoorMa09
import Derived.Test.YtbehafhkgbjgmaaGreatDoorMa10
import Derived.Test.YtbehafhkgbjgmaaGreatDoorMa11
import Derived.Test.YtbehafhkgbjgmaaGreatDoorMa12

