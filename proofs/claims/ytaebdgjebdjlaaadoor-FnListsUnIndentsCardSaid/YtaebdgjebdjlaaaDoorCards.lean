/-
  DERIVED. GIVEN WITH THE SEED: THE CARDS: each row of YtaebdgjebdjlaaaDoorRows.lean that lists a variable, with what it lists TIED to the program's text (the seventh form; the later family's looks); each row that meets fmt, with fmt's text TOLD by the authors' own Lean function (tested against real Go, not proved from fmt's source: count such statements apart). THE CARD IS WHAT COUNTS. Prove the row's statement (the work); the ties are given (YtaebdgjebdjlaaaDoorTie.lean); close each card by the builder's one call (the guide's Derived/Test/ToyasCard.lean, 'card_holds'). Laid BY PROGRAM, IN A SANDBOX (cutbox-door.mjs). By AI agents, Wed Nov 11 2026. No macro, syntax, notation, axiom, sorry.
-/
import Derived.Test.YtaebdgjebdjlaaaDoorRows
import GoSem.ClaimSeven
namespace Go.Proofs.YtaebdgjebdjlaaaDoor
namespace Rows

/-- THE TIED CARD OF 'laws.FnPaintEscape'. -/
def fnPaintEscapeCard : Claim7 := { stood := { row := fnPaintEscapeRow, standIns := [], harness := (true, "e8d01f5798b760f8f81c16f73e16ed3aa043a8e063effec275a2e0b06e84ccd3"), looks := true }, kinds := [], alts := [], laidByText := true, laidKinds := [.data, .data, .data], laidTests := true, laidLooks := .later }
def FnPaintEscapeCardSaid : Prop := Claim7.holds Tryd.pinned (.plain (OpenSpec.ofChange fnPaintEscapeSpec)) fnPaintEscapeCard

/-- THE TIED CARD OF 'laws.FnPaintTitleLower'. -/
def fnPaintTitleLowerCard : Claim7 := { stood := { row := fnPaintTitleLowerRow, standIns := [], harness := (true, "e8d01f5798b760f8f81c16f73e16ed3aa043a8e063effec275a2e0b06e84ccd3"), looks := true }, kinds := [], alts := [], laidByText := true, laidKinds := [.data, .data, .data, .data, .listed, .data, .pinned, .pinned, .pinned, .pinned], laidTests := true, laidLooks := .later }
def FnPaintTitleLowerCardSaid : Prop := Claim7.holds Tryd.pinned (.plain (OpenSpec.ofChange fnPaintTitleLowerSpec)) fnPaintTitleLowerCard

/-- THE TIED CARD OF 'laws.FnListsIndents'. -/
def fnListsIndentsCard : Claim7 := { stood := { row := fnListsIndentsRow, standIns := [], harness := (true, "e8d01f5798b760f8f81c16f73e16ed3aa043a8e063effec275a2e0b06e84ccd3"), looks := true }, kinds := [], alts := [], laidByText := true, laidKinds := [.data, .listed, .data, .pinned, .pinned, .pinned, .pinned], laidTests := true, laidLooks := .later }
def FnListsIndentsCardSaid : Prop := Claim7.holds Tryd.pinned (.plain (OpenSpec.ofChange fnListsIndentsSpec)) fnListsIndentsCard

/-- THE TIED CARD OF 'laws.FnListsPrefix'. -/
def fnListsPrefixCard : Claim7 := { stood := { row := fnListsPrefixRow, standIns := [], harness := (true, "e8d01f5798b760f8f81c16f73e16ed3aa043a8e063effec275a2e0b06e84ccd3"), looks := true }, kinds := [], alts := [], laidByText := true, laidKinds := [.data, .listed, .data, .pinned, .pinned, .pinned, .pinned], laidTests := true, laidLooks := .later }
def FnListsPrefixCardSaid : Prop := Claim7.holds Tryd.pinned (.plain (OpenSpec.ofChange fnListsPrefixSpec)) fnListsPrefixCard

/-- THE TIED CARD OF 'laws.FnListsOther'. -/
def fnListsOtherCard : Claim7 := { stood := { row := fnListsOtherRow, standIns := [], harness := (true, "e8d01f5798b760f8f81c16f73e16ed3aa043a8e063effec275a2e0b06e84ccd3"), looks := true }, kinds := [], alts := [], laidByText := true, laidKinds := [.data, .listed, .data, .pinned, .pinned, .pinned, .pinned], laidTests := true, laidLooks := .later }
def FnListsOtherCardSaid : Prop := Claim7.holds Tryd.pinned (.plain (OpenSpec.ofChange fnListsOtherSpec)) fnListsOtherCard

/-- THE TIED CARD OF 'laws.FnListsMarkdownBack'. -/
def fnListsMarkdownBackCard : Claim7 := { stood := { row := fnListsMarkdownBackRow, standIns := [], harness := (true, "e8d01f5798b760f8f81c16f73e16ed3aa043a8e063effec275a2e0b06e84ccd3"), looks := true }, kinds := [], alts := [], laidByText := true, laidKinds := [.data, .listed, .data, .pinned, .pinned, .pinned, .pinned], laidTests := true, laidLooks := .later }
def FnListsMarkdownBackCardSaid : Prop := Claim7.holds Tryd.pinned (.plain (OpenSpec.ofChange fnListsMarkdownBackSpec)) fnListsMarkdownBackCard

/-- THE TIED CARD OF 'laws.FnListsLineCount'. -/
def fnListsLineCountCard : Claim7 := { stood := { row := fnListsLineCountRow, standIns := [], harness := (true, "e8d01f5798b760f8f81c16f73e16ed3aa043a8e063effec275a2e0b06e84ccd3"), looks := true }, kinds := [], alts := [], laidByText := true, laidKinds := [.data, .listed, .data, .pinned, .pinned, .pinned, .pinned], laidTests := true, laidLooks := .later }
def FnListsLineCountCardSaid : Prop := Claim7.holds Tryd.pinned (.plain (OpenSpec.ofChange fnListsLineCountSpec)) fnListsLineCountCard

/-- THE TIED CARD OF 'laws.FnMachineOnce'. -/
def fnMachineOnceCard : Claim7 := { stood := { row := fnMachineOnceRow, standIns := [], harness := (true, "e8d01f5798b760f8f81c16f73e16ed3aa043a8e063effec275a2e0b06e84ccd3"), looks := true }, kinds := [], alts := [], laidByText := true, laidKinds := [.data, .listed, .data, .pinned], laidTests := true, laidLooks := .later }
def FnMachineOnceCardSaid : Prop := Claim7.holds Tryd.pinned (.plain (OpenSpec.ofChange fnMachineOnceSpec)) fnMachineOnceCard

/-- THE TIED CARD OF 'laws.FnMachineOpen'. -/
def fnMachineOpenCard : Claim7 := { stood := { row := fnMachineOpenRow, standIns := [], harness := (true, "e8d01f5798b760f8f81c16f73e16ed3aa043a8e063effec275a2e0b06e84ccd3"), looks := true }, kinds := [], alts := [], laidByText := true, laidKinds := [.data, .listed, .data, .pinned], laidTests := true, laidLooks := .later }
def FnMachineOpenCardSaid : Prop := Claim7.holds Tryd.pinned (.plain (OpenSpec.ofChange fnMachineOpenSpec)) fnMachineOpenCard

/-- THE TIED CARD OF 'laws.FnListsUnIndents'. -/
def fnListsUnIndentsCard : Claim7 := { stood := { row := fnListsUnIndentsRow, standIns := [], harness := (true, "e8d01f5798b760f8f81c16f73e16ed3aa043a8e063effec275a2e0b06e84ccd3"), looks := true }, kinds := [], alts := [], laidByText := true, laidKinds := [.data, .listed, .data, .pinned, .pinned, .pinned, .pinned], laidTests := true, laidLooks := .later }
def FnListsUnIndentsCardSaid : Prop := Claim7.holds Tryd.pinned (.plain (OpenSpec.ofChange fnListsUnIndentsSpec)) fnListsUnIndentsCard

/-- THE SECOND FORM's CARD OF 'laws.FnPaintEscape'. -/
def fnPaintEscapeUptoCard : Claim7 := { stood := { row := fnPaintEscapeUptoRow, standIns := [], harness := (true, "e8d01f5798b760f8f81c16f73e16ed3aa043a8e063effec275a2e0b06e84ccd3"), looks := true }, kinds := [], alts := [], laidByText := true, laidKinds := [.data, .data, .data], laidTests := true, laidLooks := .later }
def FnPaintEscapeUptoCardSaid : Prop := Claim7.holds Tryd.pinned (.plain (OpenSpec.upto fnPaintEscapeSpec)) fnPaintEscapeUptoCard

/-- THE SECOND FORM's CARD OF 'laws.FnPaintTitleLower'. -/
def fnPaintTitleLowerUptoCard : Claim7 := { stood := { row := fnPaintTitleLowerUptoRow, standIns := [], harness := (true, "e8d01f5798b760f8f81c16f73e16ed3aa043a8e063effec275a2e0b06e84ccd3"), looks := true }, kinds := [], alts := [], laidByText := true, laidKinds := [.data, .data, .data, .data, .listed, .data, .pinned, .pinned, .pinned, .pinned], laidTests := true, laidLooks := .later }
def FnPaintTitleLowerUptoCardSaid : Prop := Claim7.holds Tryd.pinned (.plain (OpenSpec.upto fnPaintTitleLowerSpec)) fnPaintTitleLowerUptoCard

/-- THE SECOND FORM's CARD OF 'laws.FnListsIndents'. -/
def fnListsIndentsUptoCard : Claim7 := { stood := { row := fnListsIndentsUptoRow, standIns := [], harness := (true, "e8d01f5798b760f8f81c16f73e16ed3aa043a8e063effec275a2e0b06e84ccd3"), looks := true }, kinds := [], alts := [], laidByText := true, laidKinds := [.data, .listed, .data, .pinned, .pinned, .pinned, .pinned], laidTests := true, laidLooks := .later }
def FnListsIndentsUptoCardSaid : Prop := Claim7.holds Tryd.pinned (.plain (OpenSpec.upto fnListsIndentsSpec)) fnListsIndentsUptoCard

/-- THE SECOND FORM's CARD OF 'laws.FnListsPrefix'. -/
def fnListsPrefixUptoCard : Claim7 := { stood := { row := fnListsPrefixUptoRow, standIns := [], harness := (true, "e8d01f5798b760f8f81c16f73e16ed3aa043a8e063effec275a2e0b06e84ccd3"), looks := true }, kinds := [], alts := [], laidByText := true, laidKinds := [.data, .listed, .data, .pinned, .pinned, .pinned, .pinned], laidTests := true, laidLooks := .later }
def FnListsPrefixUptoCardSaid : Prop := Claim7.holds Tryd.pinned (.plain (OpenSpec.upto fnListsPrefixSpec)) fnListsPrefixUptoCard

/-- THE SECOND FORM's CARD OF 'laws.FnListsOther'. -/
def fnListsOtherUptoCard : Claim7 := { stood := { row := fnListsOtherUptoRow, standIns := [], harness := (true, "e8d01f5798b760f8f81c16f73e16ed3aa043a8e063effec275a2e0b06e84ccd3"), looks := true }, kinds := [], alts := [], laidByText := true, laidKinds := [.data, .listed, .data, .pinned, .pinned, .pinned, .pinned], laidTests := true, laidLooks := .later }
def FnListsOtherUptoCardSaid : Prop := Claim7.holds Tryd.pinned (.plain (OpenSpec.upto fnListsOtherSpec)) fnListsOtherUptoCard

/-- THE SECOND FORM's CARD OF 'laws.FnListsMarkdownBack'. -/
def fnListsMarkdownBackUptoCard : Claim7 := { stood := { row := fnListsMarkdownBackUptoRow, standIns := [], harness := (true, "e8d01f5798b760f8f81c16f73e16ed3aa043a8e063effec275a2e0b06e84ccd3"), looks := true }, kinds := [], alts := [], laidByText := true, laidKinds := [.data, .listed, .data, .pinned, .pinned, .pinned, .pinned], laidTests := true, laidLooks := .later }
def FnListsMarkdownBackUptoCardSaid : Prop := Claim7.holds Tryd.pinned (.plain (OpenSpec.upto fnListsMarkdownBackSpec)) fnListsMarkdownBackUptoCard

/-- THE SECOND FORM's CARD OF 'laws.FnListsLineCount'. -/
def fnListsLineCountUptoCard : Claim7 := { stood := { row := fnListsLineCountUptoRow, standIns := [], harness := (true, "e8d01f5798b760f8f81c16f73e16ed3aa043a8e063effec275a2e0b06e84ccd3"), looks := true }, kinds := [], alts := [], laidByText := true, laidKinds := [.data, .listed, .data, .pinned, .pinned, .pinned, .pinned], laidTests := true, laidLooks := .later }
def FnListsLineCountUptoCardSaid : Prop := Claim7.holds Tryd.pinned (.plain (OpenSpec.upto fnListsLineCountSpec)) fnListsLineCountUptoCard

/-- THE SECOND FORM's CARD OF 'laws.FnMachineOnce'. -/
def fnMachineOnceUptoCard : Claim7 := { stood := { row := fnMachineOnceUptoRow, standIns := [], harness := (true, "e8d01f5798b760f8f81c16f73e16ed3aa043a8e063effec275a2e0b06e84ccd3"), looks := true }, kinds := [], alts := [], laidByText := true, laidKinds := [.data, .listed, .data, .pinned], laidTests := true, laidLooks := .later }
def FnMachineOnceUptoCardSaid : Prop := Claim7.holds Tryd.pinned (.plain (OpenSpec.upto fnMachineOnceSpec)) fnMachineOnceUptoCard

/-- THE SECOND FORM's CARD OF 'laws.FnMachineOpen'. -/
def fnMachineOpenUptoCard : Claim7 := { stood := { row := fnMachineOpenUptoRow, standIns := [], harness := (true, "e8d01f5798b760f8f81c16f73e16ed3aa043a8e063effec275a2e0b06e84ccd3"), looks := true }, kinds := [], alts := [], laidByText := true, laidKinds := [.data, .listed, .data, .pinned], laidTests := true, laidLooks := .later }
def FnMachineOpenUptoCardSaid : Prop := Claim7.holds Tryd.pinned (.plain (OpenSpec.upto fnMachineOpenSpec)) fnMachineOpenUptoCard

/-- THE SECOND FORM's CARD OF 'laws.FnListsUnIndents'. -/
def fnListsUnIndentsUptoCard : Claim7 := { stood := { row := fnListsUnIndentsUptoRow, standIns := [], harness := (true, "e8d01f5798b760f8f81c16f73e16ed3aa043a8e063effec275a2e0b06e84ccd3"), looks := true }, kinds := [], alts := [], laidByText := true, laidKinds := [.data, .listed, .data, .pinned, .pinned, .pinned, .pinned], laidTests := true, laidLooks := .later }
def FnListsUnIndentsUptoCardSaid : Prop := Claim7.holds Tryd.pinned (.plain (OpenSpec.upto fnListsUnIndentsSpec)) fnListsUnIndentsUptoCard
end Rows
end Go.Proofs.YtaebdgjebdjlaaaDoor
