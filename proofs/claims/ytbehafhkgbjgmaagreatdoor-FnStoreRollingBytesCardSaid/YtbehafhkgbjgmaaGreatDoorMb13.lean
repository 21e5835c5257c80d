/-
  The ways of 'insert' at a node with children, together. No condition.
-/
import Derived.Test.YtbehafhkgbjgmaaGreatDoorMb09
import Derived.Test.YtbehafhkgbjgmaaGreatDoorMb10
import Derived.Test.YtbehafhkgbjgmaaGreatDoorMb11
import Derived.Test.YtbehafhkgbjgmaaGreatDoorMb12

