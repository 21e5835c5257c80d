/-
  Three light closed facts of the row FnStoreRollingBytes. No condition.
-/
import Derived.Test.YtbehafhkgbjgmaaGreatDoorCards
import Derived.KernelRfl
import Derived.JoinedOf
import Derived.Test.YtbehafhkgbjgmaaGreatDoorMb38
import Derived.Test.YtbehafhkgbjgmaaGreatDoorMb43
namespace Go.Proofs.YtbehafhkgbjgmaaGreatDoor.RollingB
open Go
set_option maxRecDepth 100000
theorem main6 : Tryz.prog.mainIs = some (true, "a0384fa8afc43456deef4d2771aeec8f183801b84da1d071d2c82f4a7e9bf774".toList) := by kernel_rfl
theorem inst0 : (Tryz.f4).isInstance Tryz.prog Rows.fnStoreRollingBytesRow.origin Rows.fnStoreRollingBytesRow.targs := of_decide_eq_true (by kernel_rfl)
theorem wrap0 : (Tryz.f4).isWrapper Tryz.prog Rows.fnStoreRollingBytesRow.wrapper Rows.fnStoreRollingBytesRow.mainSum := by unfold Func.isWrapper; first | (rw [if_pos (by decide +kernel)]; kernel_rfl) | (rw [if_neg (by decide +kernel)]; exact ⟨rfl, rfl⟩)
end Go.Proofs.YtbehafhkgbjgmaaGreatDoor.RollingB

/-
  The row of the law FnStoreRollingBytes: it returns true at every input. Conditions: those of the given row.
-/
namespace Go.Proofs.YtbehafhkgbjgmaaGreatDoor.RollingB
open Go Go.ChangeShapes Go.WideShapes Go.ChangeAt Go.RowKit
set_option maxRecDepth 100000

theorem lifted (os : Os) (started : os.Started) (H : Type) (enc : TypeId × Value → H) (F : Stop.Interp) :
    ReturnsInHanded {} Tryz.checked os 4 .any ((OpenSpec.ofChange Rows.fnStoreRollingBytesSpec).preRow enc Tryz.prog Tryz.f4 Rows.fnStoreRollingBytesRow.domain false Rows.fnStoreRollingBytesRow.laid) (((OpenSpec.ofChange Rows.fnStoreRollingBytesSpec).at F).post enc Tryz.prog Tryz.f4 false true false false) := by
  refine returnsInHanded_of_row (C := Tryz.checked) (s := OpenSpec.ofChange Rows.fnStoreRollingBytesSpec) own started noInit Tryz.func4
    ⟨World.laidAll Tryz.prog os Rows.fnStoreRollingBytesRow.laid, fun _ _ => 0, ⟨#[], #[.slice none 0 0, .int .i64 0], []⟩, World.laidAll_os _ _ _, World.shaped_of_ZipB (zip os) (rest os), (Input.okWide_of_okWideB (base := 0) (okB os)).1, (Input.okWide_of_okWideB (okB os)).2, fits os enc, by
      simp only [Assume.holds]
      exact ⟨by simp, by simp, fun _ => Modest.zero, by simp, by simp⟩⟩ ?_
  intro W base args ds gs before hval hW _ _ _ hL _ _
  exact contract H enc W base args ds gs before hval hW hL
theorem said : Rows.FnStoreRollingBytesSaid :=
  OpenClaim.holds_of_cond 4 Tryz.f4 rfl rfl rfl rfl rfl rfl rfl ⟨rfl, rfl, rfl, rfl, rfl⟩ rfl rfl rfl rfl rfl named4 Tryz.func4 joined inst0 wrap0
    (fun os started H enc _ F => by rw [OpenClaim.pre_eq_preRow]; exact lifted os started H enc F)
theorem plain (f : FuncId) (fn : Func) (hf : Tryz.pinned.checked.prog.funcNamed "pub-streamkeep/laws.FnStoreRollingBytes" = some f) (hfn : Tryz.pinned.checked.prog.funcs[f]? = some fn) :
    true = Tryz.pinned.checked.prog.looks [] ∧ ∀ (j : Nat) t, fn.params[j]? = some t → Tryz.pinned.checked.prog.wantsStandIn t = false := by
  obtain rfl : f = 4 := Option.some.inj (named4.symm.trans hf) |>.symm
  obtain rfl : fn = Tryz.f4 := (Option.some.inj (Tryz.func4.symm.trans hfn)).symm
  refine ⟨looks0, fun j t ht => ?_⟩
  rw [Tryz.params4] at ht
  have : t = 22 ∨ t = 2 := by simpa using Array.mem_of_getElem? ht
  rcases this with rfl | rfl
  · exact wants22
  · exact wants2
end Go.Proofs.YtbehafhkgbjgmaaGreatDoor.RollingB
