/-
  DERIVED. GIVEN WITH THE SEED: THE CARDS: each row of YtlclmpiocbkabaaDoorRows.lean that lists a variable, with what it lists TIED to the program's text (the seventh form; the later family's looks); each row that meets fmt, with fmt's text TOLD by the authors' own Lean function (tested against real Go, not proved from fmt's source: count such statements apart). THE CARD IS WHAT COUNTS. Prove the row's statement (the work); the ties are given (YtlclmpiocbkabaaDoorTie.lean); close each card by the builder's one call (the guide's Derived/Test/ToyasCard.lean, 'card_holds'). Laid BY PROGRAM, IN A SANDBOX (cutbox-door.mjs). By AI agents, Wed Nov 11 2026. No macro, syntax, notation, axiom, sorry.
-/
import Derived.Test.YtlclmpiocbkabaaDoorRows
import GoSem.ClaimSeven
namespace Go.Proofs.YtlclmpiocbkabaaDoor
namespace Rows

/-- THE TIED CARD OF 'laws.FnPaintTitleLower'. -/
def fnPaintTitleLowerCard : Claim7 := { stood := { row := fnPaintTitleLowerRow, standIns := [], harness := (true, "96782584cd7f229f3e655c73e6426e25fcdff0147aad50853c6843614834abb8"), looks := true }, kinds := [], alts := [], laidByText := true, laidKinds := [.data, .data, .data, .data, .listed, .data, .pinned, .pinned, .pinned, .pinned], laidTests := true, laidLooks := .later }
def FnPaintTitleLowerCardSaid : Prop := Claim7.holds Tryd.pinned (.plain (OpenSpec.ofChange fnPaintTitleLowerSpec)) fnPaintTitleLowerCard

/-- THE TIED CARD OF 'laws.FnMachineOnce'. -/
def fnMachineOnceCard : Claim7 := { stood := { row := fnMachineOnceRow, standIns := [], harness := (true, "96782584cd7f229f3e655c73e6426e25fcdff0147aad50853c6843614834abb8"), looks := true }, kinds := [], alts := [], laidByText := true, laidKinds := [.data, .listed, .data, .pinned], laidTests := true, laidLooks := .later }
def FnMachineOnceCardSaid : Prop := Claim7.holds Tryd.pinned (.plain (OpenSpec.ofChange fnMachineOnceSpec)) fnMachineOnceCard

/-- THE TIED CARD OF 'laws.FnMachineOpen'. -/
def fnMachineOpenCard : Claim7 := { stood := { row := fnMachineOpenRow, standIns := [], harness := (true, "96782584cd7f229f3e655c73e6426e25fcdff0147aad50853c6843614834abb8"), looks := true }, kinds := [], alts := [], laidByText := true, laidKinds := [.data, .listed, .data, .pinned], laidTests := true, laidLooks := .later }
def FnMachineOpenCardSaid : Prop := Claim7.holds Tryd.pinned (.plain (OpenSpec.ofChange fnMachineOpenSpec)) fnMachineOpenCard

/-- THE SECOND FORM's CARD OF 'laws.FnPaintTitleLower'. -/
def fnPaintTitleLowerUptoCard : Claim7 := { stood := { row := fnPaintTitleLowerUptoRow, standIns := [], harness := (true, "96782584cd7f229f3e655c73e6426e25fcdff0147aad50853c6843614834abb8"), looks := true }, kinds := [], alts := [], laidByText := true, laidKinds := [.data, .data, .data, .data, .listed, .data, .pinned, .pinned, .pinned, .pinned], laidTests := true, laidLooks := .later }
def FnPaintTitleLowerUptoCardSaid : Prop := Claim7.holds Tryd.pinned (.plain (OpenSpec.upto fnPaintTitleLowerSpec)) fnPaintTitleLowerUptoCard

/-- THE SECOND FORM's CARD OF 'laws.FnMachineOnce'. -/
def fnMachineOnceUptoCard : Claim7 := { stood := { row := fnMachineOnceUptoRow, standIns := [], harness := (true, "96782584cd7f229f3e655c73e6426e25fcdff0147aad50853c6843614834abb8"), looks := true }, kinds := [], alts := [], laidByText := true, laidKinds := [.data, .listed, .data, .pinned], laidTests := true, laidLooks := .later }
def FnMachineOnceUptoCardSaid : Prop := Claim7.holds Tryd.pinned (.plain (OpenSpec.upto fnMachineOnceSpec)) fnMachineOnceUptoCard

/-- THE SECOND FORM's CARD OF 'laws.FnMachineOpen'. -/
def fnMachineOpenUptoCard : Claim7 := { stood := { row := fnMachineOpenUptoRow, standIns := [], harness := (true, "96782584cd7f229f3e655c73e6426e25fcdff0147aad50853c6843614834abb8"), looks := true }, kinds := [], alts := [], laidByText := true, laidKinds := [.data, .listed, .data, .pinned], laidTests := true, laidLooks := .later }
def FnMachineOpenUptoCardSaid : Prop := Claim7.holds Tryd.pinned (.plain (OpenSpec.upto fnMachineOpenSpec)) fnMachineOpenUptoCard
end Rows
end Go.Proofs.YtlclmpiocbkabaaDoor
