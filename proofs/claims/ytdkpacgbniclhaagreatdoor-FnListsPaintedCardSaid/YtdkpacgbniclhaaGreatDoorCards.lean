/-
  DERIVED. GIVEN WITH THE SEED: THE CARDS: each row of YtdkpacgbniclhaaGreatDoorRows.lean that lists a variable, with what it lists TIED to the program's text (the seventh form; the later family's looks); each row that meets fmt, with fmt's text TOLD by the authors' own Lean function (tested against real Go, not proved from fmt's source: count such statements apart). THE CARD IS WHAT COUNTS. Prove the row's statement (the work); the ties are given (YtdkpacgbniclhaaGreatDoorTie.lean); close each card by the builder's one call (the guide's Derived/Test/ToyasCard.lean, 'card_holds'). Laid BY PROGRAM, IN A SANDBOX (cutbox-door.mjs). By AI agents, Wed Nov 11 2026. No macro, syntax, notation, axiom, sorry.
-/
import Derived.Test.YtdkpacgbniclhaaGreatDoorRows
import GoSem.ClaimSeven
namespace Go.Proofs.YtdkpacgbniclhaaGreatDoor
namespace Rows

/-- THE TIED CARD OF 'laws.FnListsPainted'. -/
def fnListsPaintedCard : Claim7 := { stood := { row := fnListsPaintedRow, standIns := [], harness := (true, "67e839a1fdfe0954bdce2ed90c074884b8f43331a71510a44254fb96f2aa770b"), looks := true }, kinds := [], alts := [], laidByText := true, laidKinds := [.data, .listed, .data, .pinned, .pinned, .pinned, .pinned], laidTests := true, laidLooks := .later }
def FnListsPaintedCardSaid : Prop := Claim7.holds Tryz.pinned (.plain (OpenSpec.ofChange fnListsPaintedSpec)) fnListsPaintedCard

/-- THE TIED CARD OF 'laws.FnMachineAgain'. -/
def fnMachineAgainCard : Claim7 := { stood := { row := fnMachineAgainRow, standIns := [], harness := (true, "67e839a1fdfe0954bdce2ed90c074884b8f43331a71510a44254fb96f2aa770b"), looks := true }, kinds := [], alts := [], laidByText := true, laidKinds := [.data, .data, .data, .data, .listed, .data, .pinned], laidTests := true, laidLooks := .later }
def FnMachineAgainCardSaid : Prop := Claim7.holds Tryz.pinned (.plain (OpenSpec.ofChange fnMachineAgainSpec)) fnMachineAgainCard

/-- THE TIED CARD OF 'laws.FnMachineSeq'. -/
def fnMachineSeqCard : Claim7 := { stood := { row := fnMachineSeqRow, standIns := [], harness := (true, "67e839a1fdfe0954bdce2ed90c074884b8f43331a71510a44254fb96f2aa770b"), looks := true }, kinds := [], alts := [], laidByText := true, laidKinds := [.data, .data, .data, .data, .listed, .data, .pinned], laidTests := true, laidLooks := .later }
def FnMachineSeqCardSaid : Prop := Claim7.holds Tryz.pinned (.plain (OpenSpec.ofChange fnMachineSeqSpec)) fnMachineSeqCard

/-- THE TIED CARD OF 'laws.FnMachineUnended'. -/
def fnMachineUnendedCard : Claim7 := { stood := { row := fnMachineUnendedRow, standIns := [], harness := (true, "67e839a1fdfe0954bdce2ed90c074884b8f43331a71510a44254fb96f2aa770b"), looks := true }, kinds := [], alts := [], laidByText := true, laidKinds := [.data, .data, .data, .data, .listed, .data, .pinned], laidTests := true, laidLooks := .later }
def FnMachineUnendedCardSaid : Prop := Claim7.holds Tryz.pinned (.plain (OpenSpec.ofChange fnMachineUnendedSpec)) fnMachineUnendedCard

/-- THE TIED CARD OF 'laws.FnMachine256'. -/
def fnMachine256Card : Claim7 := { stood := { row := fnMachine256Row, standIns := [], harness := (true, "67e839a1fdfe0954bdce2ed90c074884b8f43331a71510a44254fb96f2aa770b"), looks := true }, kinds := [], alts := [], laidByText := true, laidKinds := [.data, .data, .data, .data, .listed, .data, .pinned], laidTests := true, laidLooks := .later }
def FnMachine256CardSaid : Prop := Claim7.holds Tryz.pinned (.plain (OpenSpec.ofChange fnMachine256Spec)) fnMachine256Card

/-- THE SECOND FORM's CARD OF 'laws.FnListsPainted'. -/
def fnListsPaintedUptoCard : Claim7 := { stood := { row := fnListsPaintedUptoRow, standIns := [], harness := (true, "67e839a1fdfe0954bdce2ed90c074884b8f43331a71510a44254fb96f2aa770b"), looks := true }, kinds := [], alts := [], laidByText := true, laidKinds := [.data, .listed, .data, .pinned, .pinned, .pinned, .pinned], laidTests := true, laidLooks := .later }
def FnListsPaintedUptoCardSaid : Prop := Claim7.holds Tryz.pinned (.plain (OpenSpec.upto fnListsPaintedSpec)) fnListsPaintedUptoCard

/-- THE SECOND FORM's CARD OF 'laws.FnMachineAgain'. -/
def fnMachineAgainUptoCard : Claim7 := { stood := { row := fnMachineAgainUptoRow, standIns := [], harness := (true, "67e839a1fdfe0954bdce2ed90c074884b8f43331a71510a44254fb96f2aa770b"), looks := true }, kinds := [], alts := [], laidByText := true, laidKinds := [.data, .data, .data, .data, .listed, .data, .pinned], laidTests := true, laidLooks := .later }
def FnMachineAgainUptoCardSaid : Prop := Claim7.holds Tryz.pinned (.plain (OpenSpec.upto fnMachineAgainSpec)) fnMachineAgainUptoCard

/-- THE SECOND FORM's CARD OF 'laws.FnMachineSeq'. -/
def fnMachineSeqUptoCard : Claim7 := { stood := { row := fnMachineSeqUptoRow, standIns := [], harness := (true, "67e839a1fdfe0954bdce2ed90c074884b8f43331a71510a44254fb96f2aa770b"), looks := true }, kinds := [], alts := [], laidByText := true, laidKinds := [.data, .data, .data, .data, .listed, .data, .pinned], laidTests := true, laidLooks := .later }
def FnMachineSeqUptoCardSaid : Prop := Claim7.holds Tryz.pinned (.plain (OpenSpec.upto fnMachineSeqSpec)) fnMachineSeqUptoCard

/-- THE SECOND FORM's CARD OF 'laws.FnMachineUnended'. -/
def fnMachineUnendedUptoCard : Claim7 := { stood := { row := fnMachineUnendedUptoRow, standIns := [], harness := (true, "67e839a1fdfe0954bdce2ed90c074884b8f43331a71510a44254fb96f2aa770b"), looks := true }, kinds := [], alts := [], laidByText := true, laidKinds := [.data, .data, .data, .data, .listed, .data, .pinned], laidTests := true, laidLooks := .later }
def FnMachineUnendedUptoCardSaid : Prop := Claim7.holds Tryz.pinned (.plain (OpenSpec.upto fnMachineUnendedSpec)) fnMachineUnendedUptoCard

/-- THE SECOND FORM's CARD OF 'laws.FnMachine256'. -/
def fnMachine256UptoCard : Claim7 := { stood := { row := fnMachine256UptoRow, standIns := [], harness := (true, "67e839a1fdfe0954bdce2ed90c074884b8f43331a71510a44254fb96f2aa770b"), looks := true }, kinds := [], alts := [], laidByText := true, laidKinds := [.data, .data, .data, .data, .listed, .data, .pinned], laidTests := true, laidLooks := .later }
def FnMachine256UptoCardSaid : Prop := Claim7.holds Tryz.pinned (.plain (OpenSpec.upto fnMachine256Spec)) fnMachine256UptoCard
end Rows
end Go.Proofs.YtdkpacgbniclhaaGreatDoor
