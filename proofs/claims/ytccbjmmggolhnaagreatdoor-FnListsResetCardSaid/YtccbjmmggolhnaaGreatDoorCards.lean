/-
  DERIVED. GIVEN WITH THE SEED: THE CARDS: each row of YtccbjmmggolhnaaGreatDoorRows.lean that lists a variable, with what it lists TIED to the program's text (the seventh form; the later family's looks); each row that meets fmt, with fmt's text TOLD by the authors' own Lean function (tested against real Go, not proved from fmt's source: count such statements apart). THE CARD IS WHAT COUNTS. Prove the row's statement (the work); the ties are given (YtccbjmmggolhnaaGreatDoorTie.lean); close each card by the builder's one call (the guide's Derived/Test/ToyasCard.lean, 'card_holds'). Laid BY PROGRAM, IN A SANDBOX (cutbox-door.mjs). By AI agents, Wed Nov 11 2026. No macro, syntax, notation, axiom, sorry.
-/
import Derived.Test.YtccbjmmggolhnaaGreatDoorRows
import GoSem.ClaimSeven
namespace Go.Proofs.YtccbjmmggolhnaaGreatDoor
namespace Rows

/-- THE TIED CARD OF 'laws.FnListsDrawn'. -/
def fnListsDrawnCard : Claim7 := { stood := { row := fnListsDrawnRow, standIns := [], harness := (true, "58e18c8eef6d2d3173a2a6e27266ee8c76e8c83208748a7cc3101b31356cfaa5"), looks := true }, kinds := [], alts := [], laidByText := true, laidKinds := [.data, .listed, .data, .pinned, .pinned, .pinned, .pinned], laidTests := true, laidLooks := .later }
def FnListsDrawnCardSaid : Prop := Claim7.holds Tryz.pinned (.plain (OpenSpec.ofChange fnListsDrawnSpec)) fnListsDrawnCard

/-- THE TIED CARD OF 'laws.FnListsMarkdown'. -/
def fnListsMarkdownCard : Claim7 := { stood := { row := fnListsMarkdownRow, standIns := [], harness := (true, "58e18c8eef6d2d3173a2a6e27266ee8c76e8c83208748a7cc3101b31356cfaa5"), looks := true }, kinds := [], alts := [], laidByText := true, laidKinds := [.data, .listed, .data, .pinned, .pinned, .pinned, .pinned], laidTests := true, laidLooks := .later }
def FnListsMarkdownCardSaid : Prop := Claim7.holds Tryz.pinned (.plain (OpenSpec.ofChange fnListsMarkdownSpec)) fnListsMarkdownCard

/-- THE TIED CARD OF 'laws.FnListsReset'. -/
def fnListsResetCard : Claim7 := { stood := { row := fnListsResetRow, standIns := [], harness := (true, "58e18c8eef6d2d3173a2a6e27266ee8c76e8c83208748a7cc3101b31356cfaa5"), looks := true }, kinds := [], alts := [], laidByText := true, laidKinds := [.data, .listed, .data, .pinned, .pinned, .pinned, .pinned], laidTests := true, laidLooks := .later }
def FnListsResetCardSaid : Prop := Claim7.holds Tryz.pinned (.plain (OpenSpec.ofChange fnListsResetSpec)) fnListsResetCard

/-- THE SECOND FORM's CARD OF 'laws.FnListsDrawn'. -/
def fnListsDrawnUptoCard : Claim7 := { stood := { row := fnListsDrawnUptoRow, standIns := [], harness := (true, "58e18c8eef6d2d3173a2a6e27266ee8c76e8c83208748a7cc3101b31356cfaa5"), looks := true }, kinds := [], alts := [], laidByText := true, laidKinds := [.data, .listed, .data, .pinned, .pinned, .pinned, .pinned], laidTests := true, laidLooks := .later }
def FnListsDrawnUptoCardSaid : Prop := Claim7.holds Tryz.pinned (.plain (OpenSpec.upto fnListsDrawnSpec)) fnListsDrawnUptoCard

/-- THE SECOND FORM's CARD OF 'laws.FnListsMarkdown'. -/
def fnListsMarkdownUptoCard : Claim7 := { stood := { row := fnListsMarkdownUptoRow, standIns := [], harness := (true, "58e18c8eef6d2d3173a2a6e27266ee8c76e8c83208748a7cc3101b31356cfaa5"), looks := true }, kinds := [], alts := [], laidByText := true, laidKinds := [.data, .listed, .data, .pinned, .pinned, .pinned, .pinned], laidTests := true, laidLooks := .later }
def FnListsMarkdownUptoCardSaid : Prop := Claim7.holds Tryz.pinned (.plain (OpenSpec.upto fnListsMarkdownSpec)) fnListsMarkdownUptoCard

/-- THE SECOND FORM's CARD OF 'laws.FnListsReset'. -/
def fnListsResetUptoCard : Claim7 := { stood := { row := fnListsResetUptoRow, standIns := [], harness := (true, "58e18c8eef6d2d3173a2a6e27266ee8c76e8c83208748a7cc3101b31356cfaa5"), looks := true }, kinds := [], alts := [], laidByText := true, laidKinds := [.data, .listed, .data, .pinned, .pinned, .pinned, .pinned], laidTests := true, laidLooks := .later }
def FnListsResetUptoCardSaid : Prop := Claim7.holds Tryz.pinned (.plain (OpenSpec.upto fnListsResetSpec)) fnListsResetUptoCard
end Rows
end Go.Proofs.YtccbjmmggolhnaaGreatDoor
