/-
  DERIVED. GIVEN WITH THE SEED: THE CARDS: each row of YtbehafhkgbjgmaaGreatDoorRows.lean that lists a variable, with what it lists TIED to the program's text (the seventh form; the later family's looks); each row that meets fmt, with fmt's text TOLD by the authors' own Lean function (tested against real Go, not proved from fmt's source: count such statements apart). THE CARD IS WHAT COUNTS. Prove the row's statement (the work); the ties are given (YtbehafhkgbjgmaaGreatDoorTie.lean); close each card by the builder's one call (the guide's Derived/Test/ToyasCard.lean, 'card_holds'). Laid BY PROGRAM, IN A SANDBOX (cutbox-door.mjs). By AI agents, Wed Nov 11 2026. No macro, syntax, notation, axiom, sorry.
-/
import Derived.Test.YtbehafhkgbjgmaaGreatDoorRows
import GoSem.ClaimSeven
namespace Go.Proofs.YtbehafhkgbjgmaaGreatDoor
namespace Rows

/-- THE TIED CARD OF 'laws.FnStoreRolling'. -/
def fnStoreRollingCard : Claim7 := { stood := { row := fnStoreRollingRow, standIns := [], harness := (true, "a0384fa8afc43456deef4d2771aeec8f183801b84da1d071d2c82f4a7e9bf774"), looks := true }, kinds := [], alts := [], laidByText := true, laidKinds := [.data, .sentinel, .sentinel, .sentinel, .sentinel, .sentinel, .sentinel, .sentinel, .sentinel, .sentinel, .sentinel, .sentinel, .sentinel], laidTests := true, laidLooks := .later }
def FnStoreRollingCardSaid : Prop := Claim7.holds Tryz.pinned (.plain (OpenSpec.ofChange fnStoreRollingSpec)) fnStoreRollingCard

/-- THE TIED CARD OF 'laws.FnStoreRollingBytes'. -/
def fnStoreRollingBytesCard : Claim7 := { stood := { row := fnStoreRollingBytesRow, standIns := [], harness := (true, "a0384fa8afc43456deef4d2771aeec8f183801b84da1d071d2c82f4a7e9bf774"), looks := true }, kinds := [], alts := [], laidByText := true, laidKinds := [.data, .sentinel, .sentinel, .sentinel, .sentinel, .sentinel, .sentinel, .sentinel, .sentinel, .sentinel, .sentinel, .sentinel, .sentinel], laidTests := true, laidLooks := .later }
def FnStoreRollingBytesCardSaid : Prop := Claim7.holds Tryz.pinned (.plain (OpenSpec.ofChange fnStoreRollingBytesSpec)) fnStoreRollingBytesCard

/-- THE TIED CARD OF 'laws.FnStoreShift'. -/
def fnStoreShiftCard : Claim7 := { stood := { row := fnStoreShiftRow, standIns := [], harness := (true, "a0384fa8afc43456deef4d2771aeec8f183801b84da1d071d2c82f4a7e9bf774"), looks := true }, kinds := [], alts := [], laidByText := true, laidKinds := [.data, .sentinel, .sentinel, .sentinel, .sentinel, .sentinel, .sentinel, .sentinel, .sentinel, .sentinel, .sentinel, .sentinel, .sentinel], laidTests := true, laidLooks := .later }
def FnStoreShiftCardSaid : Prop := Claim7.holds Tryz.pinned (.plain (OpenSpec.ofChange fnStoreShiftSpec)) fnStoreShiftCard

/-- THE SECOND FORM's CARD OF 'laws.FnStoreRolling'. -/
def fnStoreRollingUptoCard : Claim7 := { stood := { row := fnStoreRollingUptoRow, standIns := [], harness := (true, "a0384fa8afc43456deef4d2771aeec8f183801b84da1d071d2c82f4a7e9bf774"), looks := true }, kinds := [], alts := [], laidByText := true, laidKinds := [.data, .sentinel, .sentinel, .sentinel, .sentinel, .sentinel, .sentinel, .sentinel, .sentinel, .sentinel, .sentinel, .sentinel, .sentinel], laidTests := true, laidLooks := .later }
def FnStoreRollingUptoCardSaid : Prop := Claim7.holds Tryz.pinned (.plain (OpenSpec.upto fnStoreRollingSpec)) fnStoreRollingUptoCard

/-- THE SECOND FORM's CARD OF 'laws.FnStoreRollingBytes'. -/
def fnStoreRollingBytesUptoCard : Claim7 := { stood := { row := fnStoreRollingBytesUptoRow, standIns := [], harness := (true, "a0384fa8afc43456deef4d2771aeec8f183801b84da1d071d2c82f4a7e9bf774"), looks := true }, kinds := [], alts := [], laidByText := true, laidKinds := [.data, .sentinel, .sentinel, .sentinel, .sentinel, .sentinel, .sentinel, .sentinel, .sentinel, .sentinel, .sentinel, .sentinel, .sentinel], laidTests := true, laidLooks := .later }
def FnStoreRollingBytesUptoCardSaid : Prop := Claim7.holds Tryz.pinned (.plain (OpenSpec.upto fnStoreRollingBytesSpec)) fnStoreRollingBytesUptoCard

/-- THE SECOND FORM's CARD OF 'laws.FnStoreShift'. -/
def fnStoreShiftUptoCard : Claim7 := { stood := { row := fnStoreShiftUptoRow, standIns := [], harness := (true, "a0384fa8afc43456deef4d2771aeec8f183801b84da1d071d2c82f4a7e9bf774"), looks := true }, kinds := [], alts := [], laidByText := true, laidKinds := [.data, .sentinel, .sentinel, .sentinel, .sentinel, .sentinel, .sentinel, .sentinel, .sentinel, .sentinel, .sentinel, .sentinel, .sentinel], laidTests := true, laidLooks := .later }
def FnStoreShiftUptoCardSaid : Prop := Claim7.holds Tryz.pinned (.plain (OpenSpec.upto fnStoreShiftSpec)) fnStoreShiftUptoCard
end Rows
end Go.Proofs.YtbehafhkgbjgmaaGreatDoor
