/-
  DERIVED. GIVEN WITH THE SEED: THE CARDS: each row of YtccbjmmggolhnaaDoorRows.lean that lists a variable, with what it lists TIED to the program's text (the seventh form; the later family's looks); each row that meets fmt, with fmt's text TOLD by the authors' own Lean function (tested against real Go, not proved from fmt's source: count such statements apart). THE CARD IS WHAT COUNTS. Prove the row's statement (the work); the ties are given (YtccbjmmggolhnaaDoorTie.lean); close each card by the builder's one call (the guide's Derived/Test/ToyasCard.lean, 'card_holds'). Laid BY PROGRAM, IN A SANDBOX (cutbox-door.mjs). By AI agents, Wed Nov 11 2026. No macro, syntax, notation, axiom, sorry.
-/
import Derived.Test.YtccbjmmggolhnaaDoorRows
import GoSem.ClaimSeven
namespace Go.Proofs.YtccbjmmggolhnaaDoor
namespace Rows

/-- THE TIED CARD OF 'laws.FnListsIndents'. -/
def fnListsIndentsCard : Claim7 := { stood := { row := fnListsIndentsRow, standIns := [], harness := (true, "05b0fa2dadb0a772a16a1fcaaebcd71827fd95bf78169138566bc2ded9d4b754"), looks := true }, kinds := [], alts := [], laidByText := true, laidKinds := [.data, .listed, .data, .pinned, .pinned, .pinned, .pinned], laidTests := true, laidLooks := .later }
def FnListsIndentsCardSaid : Prop := Claim7.holds Tryd.pinned (.plain (OpenSpec.ofChange fnListsIndentsSpec)) fnListsIndentsCard

/-- THE TIED CARD OF 'laws.FnListsPrefix'. -/
def fnListsPrefixCard : Claim7 := { stood := { row := fnListsPrefixRow, standIns := [], harness := (true, "05b0fa2dadb0a772a16a1fcaaebcd71827fd95bf78169138566bc2ded9d4b754"), looks := true }, kinds := [], alts := [], laidByText := true, laidKinds := [.data, .listed, .data, .pinned, .pinned, .pinned, .pinned], laidTests := true, laidLooks := .later }
def FnListsPrefixCardSaid : Prop := Claim7.holds Tryd.pinned (.plain (OpenSpec.ofChange fnListsPrefixSpec)) fnListsPrefixCard

/-- THE TIED CARD OF 'laws.FnListsOther'. -/
def fnListsOtherCard : Claim7 := { stood := { row := fnListsOtherRow, standIns := [], harness := (true, "05b0fa2dadb0a772a16a1fcaaebcd71827fd95bf78169138566bc2ded9d4b754"), looks := true }, kinds := [], alts := [], laidByText := true, laidKinds := [.data, .listed, .data, .pinned, .pinned, .pinned, .pinned], laidTests := true, laidLooks := .later }
def FnListsOtherCardSaid : Prop := Claim7.holds Tryd.pinned (.plain (OpenSpec.ofChange fnListsOtherSpec)) fnListsOtherCard

/-- THE TIED CARD OF 'laws.FnListsMarkdownBack'. -/
def fnListsMarkdownBackCard : Claim7 := { stood := { row := fnListsMarkdownBackRow, standIns := [], harness := (true, "05b0fa2dadb0a772a16a1fcaaebcd71827fd95bf78169138566bc2ded9d4b754"), looks := true }, kinds := [], alts := [], laidByText := true, laidKinds := [.data, .listed, .data, .pinned, .pinned, .pinned, .pinned], laidTests := true, laidLooks := .later }
def FnListsMarkdownBackCardSaid : Prop := Claim7.holds Tryd.pinned (.plain (OpenSpec.ofChange fnListsMarkdownBackSpec)) fnListsMarkdownBackCard

/-- THE TIED CARD OF 'laws.FnListsLineCount'. -/
def fnListsLineCountCard : Claim7 := { stood := { row := fnListsLineCountRow, standIns := [], harness := (true, "05b0fa2dadb0a772a16a1fcaaebcd71827fd95bf78169138566bc2ded9d4b754"), looks := true }, kinds := [], alts := [], laidByText := true, laidKinds := [.data, .listed, .data, .pinned, .pinned, .pinned, .pinned], laidTests := true, laidLooks := .later }
def FnListsLineCountCardSaid : Prop := Claim7.holds Tryd.pinned (.plain (OpenSpec.ofChange fnListsLineCountSpec)) fnListsLineCountCard

/-- THE SECOND FORM's CARD OF 'laws.FnListsIndents'. -/
def fnListsIndentsUptoCard : Claim7 := { stood := { row := fnListsIndentsUptoRow, standIns := [], harness := (true, "05b0fa2dadb0a772a16a1fcaaebcd71827fd95bf78169138566bc2ded9d4b754"), looks := true }, kinds := [], alts := [], laidByText := true, laidKinds := [.data, .listed, .data, .pinned, .pinned, .pinned, .pinned], laidTests := true, laidLooks := .later }
def FnListsIndentsUptoCardSaid : Prop := Claim7.holds Tryd.pinned (.plain (OpenSpec.upto fnListsIndentsSpec)) fnListsIndentsUptoCard

/-- THE SECOND FORM's CARD OF 'laws.FnListsPrefix'. -/
def fnListsPrefixUptoCard : Claim7 := { stood := { row := fnListsPrefixUptoRow, standIns := [], harness := (true, "05b0fa2dadb0a772a16a1fcaaebcd71827fd95bf78169138566bc2ded9d4b754"), looks := true }, kinds := [], alts := [], laidByText := true, laidKinds := [.data, .listed, .data, .pinned, .pinned, .pinned, .pinned], laidTests := true, laidLooks := .later }
def FnListsPrefixUptoCardSaid : Prop := Claim7.holds Tryd.pinned (.plain (OpenSpec.upto fnListsPrefixSpec)) fnListsPrefixUptoCard

/-- THE SECOND FORM's CARD OF 'laws.FnListsOther'. -/
def fnListsOtherUptoCard : Claim7 := { stood := { row := fnListsOtherUptoRow, standIns := [], harness := (true, "05b0fa2dadb0a772a16a1fcaaebcd71827fd95bf78169138566bc2ded9d4b754"), looks := true }, kinds := [], alts := [], laidByText := true, laidKinds := [.data, .listed, .data, .pinned, .pinned, .pinned, .pinned], laidTests := true, laidLooks := .later }
def FnListsOtherUptoCardSaid : Prop := Claim7.holds Tryd.pinned (.plain (OpenSpec.upto fnListsOtherSpec)) fnListsOtherUptoCard

/-- THE SECOND FORM's CARD OF 'laws.FnListsMarkdownBack'. -/
def fnListsMarkdownBackUptoCard : Claim7 := { stood := { row := fnListsMarkdownBackUptoRow, standIns := [], harness := (true, "05b0fa2dadb0a772a16a1fcaaebcd71827fd95bf78169138566bc2ded9d4b754"), looks := true }, kinds := [], alts := [], laidByText := true, laidKinds := [.data, .listed, .data, .pinned, .pinned, .pinned, .pinned], laidTests := true, laidLooks := .later }
def FnListsMarkdownBackUptoCardSaid : Prop := Claim7.holds Tryd.pinned (.plain (OpenSpec.upto fnListsMarkdownBackSpec)) fnListsMarkdownBackUptoCard

/-- THE SECOND FORM's CARD OF 'laws.FnListsLineCount'. -/
def fnListsLineCountUptoCard : Claim7 := { stood := { row := fnListsLineCountUptoRow, standIns := [], harness := (true, "05b0fa2dadb0a772a16a1fcaaebcd71827fd95bf78169138566bc2ded9d4b754"), looks := true }, kinds := [], alts := [], laidByText := true, laidKinds := [.data, .listed, .data, .pinned, .pinned, .pinned, .pinned], laidTests := true, laidLooks := .later }
def FnListsLineCountUptoCardSaid : Prop := Claim7.holds Tryd.pinned (.plain (OpenSpec.upto fnListsLineCountSpec)) fnListsLineCountUptoCard
end Rows
end Go.Proofs.YtccbjmmggolhnaaDoor
