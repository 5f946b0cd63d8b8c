/-
  DERIVED. GIVEN WITH THE SEED: THE CARDS: each row of YtlclmpiocbkabaaGreatDoorRows.lean that lists a variable, with what it lists TIED to the program's text (the seventh form; the later family's looks); each row that meets fmt, with fmt's text TOLD by the authors' own Lean function (tested against real Go, not proved from fmt's source: count such statements apart). THE CARD IS WHAT COUNTS. Prove the row's statement (the work); the ties are given (YtlclmpiocbkabaaGreatDoorTie.lean); close each card by the builder's one call (the guide's Derived/Test/ToyasCard.lean, 'card_holds'). Laid BY PROGRAM, IN A SANDBOX (cutbox-door.mjs). By AI agents, Wed Nov 11 2026. No macro, syntax, notation, axiom, sorry.
-/
import Derived.Test.YtlclmpiocbkabaaGreatDoorRows
import GoSem.ClaimSeven
namespace Go.Proofs.YtlclmpiocbkabaaGreatDoor
namespace Rows

/-- THE TIED CARD OF 'laws.FnMachineAgain'. -/
def fnMachineAgainCard : Claim7 := { stood := { row := fnMachineAgainRow, standIns := [], harness := (true, "c8f49c11da4972fb233cdc5cbd94cae3a4de221a34c7b2ce4768c19e67cf82b7"), looks := true }, kinds := [], alts := [], laidByText := true, laidKinds := [.data, .data, .data, .data, .listed, .data, .pinned], laidTests := true, laidLooks := .later }
def FnMachineAgainCardSaid : Prop := Claim7.holds Tryz.pinned (.plain (OpenSpec.ofChange fnMachineAgainSpec)) fnMachineAgainCard

/-- THE TIED CARD OF 'laws.FnMachineSeq'. -/
def fnMachineSeqCard : Claim7 := { stood := { row := fnMachineSeqRow, standIns := [], harness := (true, "c8f49c11da4972fb233cdc5cbd94cae3a4de221a34c7b2ce4768c19e67cf82b7"), looks := true }, kinds := [], alts := [], laidByText := true, laidKinds := [.data, .data, .data, .data, .listed, .data, .pinned], laidTests := true, laidLooks := .later }
def FnMachineSeqCardSaid : Prop := Claim7.holds Tryz.pinned (.plain (OpenSpec.ofChange fnMachineSeqSpec)) fnMachineSeqCard

/-- THE TIED CARD OF 'laws.FnMachineUnended'. -/
def fnMachineUnendedCard : Claim7 := { stood := { row := fnMachineUnendedRow, standIns := [], harness := (true, "c8f49c11da4972fb233cdc5cbd94cae3a4de221a34c7b2ce4768c19e67cf82b7"), looks := true }, kinds := [], alts := [], laidByText := true, laidKinds := [.data, .data, .data, .data, .listed, .data, .pinned], laidTests := true, laidLooks := .later }
def FnMachineUnendedCardSaid : Prop := Claim7.holds Tryz.pinned (.plain (OpenSpec.ofChange fnMachineUnendedSpec)) fnMachineUnendedCard

/-- THE TIED CARD OF 'laws.FnMachine256'. -/
def fnMachine256Card : Claim7 := { stood := { row := fnMachine256Row, standIns := [], harness := (true, "c8f49c11da4972fb233cdc5cbd94cae3a4de221a34c7b2ce4768c19e67cf82b7"), looks := true }, kinds := [], alts := [], laidByText := true, laidKinds := [.data, .data, .data, .data, .listed, .data, .pinned], laidTests := true, laidLooks := .later }
def FnMachine256CardSaid : Prop := Claim7.holds Tryz.pinned (.plain (OpenSpec.ofChange fnMachine256Spec)) fnMachine256Card

/-- THE SECOND FORM's CARD OF 'laws.FnMachineAgain'. -/
def fnMachineAgainUptoCard : Claim7 := { stood := { row := fnMachineAgainUptoRow, standIns := [], harness := (true, "c8f49c11da4972fb233cdc5cbd94cae3a4de221a34c7b2ce4768c19e67cf82b7"), looks := true }, kinds := [], alts := [], laidByText := true, laidKinds := [.data, .data, .data, .data, .listed, .data, .pinned], laidTests := true, laidLooks := .later }
def FnMachineAgainUptoCardSaid : Prop := Claim7.holds Tryz.pinned (.plain (OpenSpec.upto fnMachineAgainSpec)) fnMachineAgainUptoCard

/-- THE SECOND FORM's CARD OF 'laws.FnMachineSeq'. -/
def fnMachineSeqUptoCard : Claim7 := { stood := { row := fnMachineSeqUptoRow, standIns := [], harness := (true, "c8f49c11da4972fb233cdc5cbd94cae3a4de221a34c7b2ce4768c19e67cf82b7"), looks := true }, kinds := [], alts := [], laidByText := true, laidKinds := [.data, .data, .data, .data, .listed, .data, .pinned], laidTests := true, laidLooks := .later }
def FnMachineSeqUptoCardSaid : Prop := Claim7.holds Tryz.pinned (.plain (OpenSpec.upto fnMachineSeqSpec)) fnMachineSeqUptoCard

/-- THE SECOND FORM's CARD OF 'laws.FnMachineUnended'. -/
def fnMachineUnendedUptoCard : Claim7 := { stood := { row := fnMachineUnendedUptoRow, standIns := [], harness := (true, "c8f49c11da4972fb233cdc5cbd94cae3a4de221a34c7b2ce4768c19e67cf82b7"), looks := true }, kinds := [], alts := [], laidByText := true, laidKinds := [.data, .data, .data, .data, .listed, .data, .pinned], laidTests := true, laidLooks := .later }
def FnMachineUnendedUptoCardSaid : Prop := Claim7.holds Tryz.pinned (.plain (OpenSpec.upto fnMachineUnendedSpec)) fnMachineUnendedUptoCard

/-- THE SECOND FORM's CARD OF 'laws.FnMachine256'. -/
def fnMachine256UptoCard : Claim7 := { stood := { row := fnMachine256UptoRow, standIns := [], harness := (true, "c8f49c11da4972fb233cdc5cbd94cae3a4de221a34c7b2ce4768c19e67cf82b7"), looks := true }, kinds := [], alts := [], laidByText := true, laidKinds := [.data, .data, .data, .data, .listed, .data, .pinned], laidTests := true, laidLooks := .later }
def FnMachine256UptoCardSaid : Prop := Claim7.holds Tryz.pinned (.plain (OpenSpec.upto fnMachine256Spec)) fnMachine256UptoCard
end Rows
end Go.Proofs.YtlclmpiocbkabaaGreatDoor
