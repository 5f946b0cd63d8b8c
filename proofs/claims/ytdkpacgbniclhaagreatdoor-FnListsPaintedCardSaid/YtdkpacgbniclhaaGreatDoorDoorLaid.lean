/- A world that bears Go's own tables that the list laws' rows list: a witness. -/
import Derived.Test.YtdkpacgbniclhaaGreatDoorRows
import Derived.Test.YtdkpacgbniclhaaGreatDoorShelf
import Derived.ProofKit
import Derived.LaidMore
import Derived.Stop.Joined
import Derived.PinnedBridge
import Derived.Lib.LaidTab
import Derived.Lib.LaidU8
import Derived.Lib.LaidRTabT
import Derived.Lib.LaidCaseMet
import Derived.Great.CaseRows
namespace Go.Proofs.YtdkpacgbniclhaaGreatDoor
open Go.ChangeShapes Go.WideShapes Go.ChangeAt Go.RowKit Go.Shelf Go.Lib Go.Great

theorem rTypes : RTypes Tryz.prog Tryz.lays261_ren := RTypes.of261 Tryz.lays261
theorem rExtra : RExtra Tryz.prog Tryz.lays261_ren := ⟨by kernel_rfl, by kernel_rfl, by kernel_rfl, by kernel_rfl, by kernel_rfl, by kernel_rfl, by kernel_rfl, by kernel_rfl⟩
theorem cTypes : CTypes Tryz.prog 212 241 239 138 21 := ⟨by kernel_rfl, by kernel_rfl, by kernel_rfl, by kernel_rfl, by kernel_rfl, by kernel_rfl, by kernel_rfl, by kernel_rfl, by kernel_rfl⟩

/-- The settled world with nine blocks more, the seven variables holding what their initialisers lay. -/
noncomputable def tabsW (os : Os) : World :=
  let N := (World.settled Tryz.prog os).heap.size
  let w0 := World.holding Tryz.prog os ⟨#[.cells (whiteT.map fun (z : Nat) => Value.int .u16 (z : Int)).toArray 220, .cells #[.slice (some ⟨N, 0, none⟩) 7 7, .slice none 0 0, .int .i64 2] 217,
    .cells (caseT.flatMap cells5).toArray 241,
    .cells (rgCells .u16 digitT.r16) 220, .cells (rgCells .u32 digitT.r32) 223, .cells #[.slice (some ⟨N + 3, 0, none⟩) digitT.r16.size digitT.r16.size, .slice (some ⟨N + 4, 0, none⟩) digitT.r32.size digitT.r32.size, .int .i64 digitT.off] 217,
    .cells (rgCells .u16 letterT.r16) 220, .cells (rgCells .u32 letterT.r32) 223, .cells #[.slice (some ⟨N + 6, 0, none⟩) letterT.r16.size letterT.r16.size, .slice (some ⟨N + 7, 0, none⟩) letterT.r32.size letterT.r32.size, .int .i64 letterT.off] 217], #[], []⟩
  let put (h : Array Obj) (g : Nat) (cs : Array Value) : Array Obj := h.modify g fun
    | .cells _ t frozen => .cells cs t frozen
    | o => o
  let h1 := put w0.heap 11 ((List.range 16).flatMap fun i => [Value.int .u8 (accLo i), Value.int .u8 (accHi i)]).toArray
  let h2 := put h1 3 #[.pointer (some ⟨N + 1, 0, none⟩)]
  let h3 := put h2 5 (propertiesTab.map fun z => Value.int .u8 z).toArray
  let h4 := put h3 4 #[.slice (some ⟨N + 2, 0, none⟩) caseT.length caseT.length]
  let h5 := put h4 7 #[.pointer (some ⟨N + 5, 0, none⟩)]
  let h6 := put h5 6 #[.pointer (some ⟨N + 8, 0, none⟩)]
  let h7 := put h6 10 (firstTab.map fun z => Value.int .u8 z).toArray
  { w0 with heap := h7 }
theorem tabsW_os (os : Os) : (tabsW os).os = os := rfl
theorem tabsW_shaped (os : Os) (args : Array Value) : ((tabsW os).forCall (fun _ _ => 0) ⟨#[], args, []⟩).Shaped Tryz.prog := World.shaped_of_RefB (by kernel_rfl) (by kernel_rfl)

set_option maxRecDepth 100000 in
theorem tabs_laid (os : Os) (args : Array Value) : laidMet Tryz.prog [("unicode/utf8.acceptRanges", Rows.laid_unicode_utf8_acceptRanges), ("unicode.White_Space", Rows.laid_unicode_White_Space), ("unicode.properties", Rows.laid_unicode_properties), ("unicode.CaseRanges", Rows.laid_unicode_CaseRanges), ("unicode.Digit", Rows.laid_unicode_Digit), ("unicode.Letter", Rows.laid_unicode_Letter), ("unicode/utf8.first", Rows.laid_unicode_utf8_first)] ((tabsW os).forCall (fun _ _ => 0) ⟨#[], args, []⟩).memory := by
  have a1 : LaidIn Tryz.prog ((tabsW os).forCall (fun _ _ => 0) ⟨#[], args, []⟩).memory [("unicode/utf8.acceptRanges", Rows.laid_unicode_utf8_acceptRanges), ("unicode.White_Space", Rows.laid_unicode_White_Space), ("unicode.properties", Rows.laid_unicode_properties)] [11, 3, 5, (World.settled Tryz.prog default).heap.size, (World.settled Tryz.prog default).heap.size + 1] :=
    LaidIn.of_run _ 10 (by kernel_rfl) (by kernel_rfl) (by kernel_rfl) (by kernel_rfl)
  have a2 : LaidIn Tryz.prog ((tabsW os).forCall (fun _ _ => 0) ⟨#[], args, []⟩).memory [("unicode.CaseRanges", Rows.laid_unicode_CaseRanges)] [4, (World.settled Tryz.prog default).heap.size + 2] := by
    have := laidIn_case cTypes (w := ((tabsW os).forCall (fun _ _ => 0) ⟨#[], args, []⟩).memory) (name := "unicode.CaseRanges") (g := 4) (B := (World.settled Tryz.prog default).heap.size + 2) (tg := 212) (tb := 241) caseT (by kernel_rfl) (by kernel_rfl) (Nat.le_of_ble_eq_true (by kernel_rfl)) (by kernel_rfl) (by kernel_rfl) (by kernel_rfl) (Nat.ne_of_beq_eq_false (by kernel_rfl))
    rw [show (.slice (caseT.map rowData) [] : DataW Unit) = Rows.laid_unicode_CaseRanges from Pinned.caseRanges_eq.symm] at this
    exact this
  have a3 : LaidIn Tryz.prog ((tabsW os).forCall (fun _ _ => 0) ⟨#[], args, []⟩).memory [("unicode.Digit", Rows.laid_unicode_Digit)] [7, (World.settled Tryz.prog default).heap.size + 5, (World.settled Tryz.prog default).heap.size + 3, (World.settled Tryz.prog default).heap.size + 4] := by
    have := laidIn_rtabT rTypes rExtra (w := ((tabsW os).forCall (fun _ _ => 0) ⟨#[], args, []⟩).memory) (name := "unicode.Digit") (g := 7) (by kernel_rfl) (by kernel_rfl) digitT ((World.settled Tryz.prog default).heap.size + 5) ((World.settled Tryz.prog default).heap.size + 3) ((World.settled Tryz.prog default).heap.size + 4) 220 223 (by kernel_rfl) (by kernel_rfl) (by kernel_rfl) (by kernel_rfl) (by kernel_rfl) (by decide) (by decide) (of_decide_eq_true (by kernel_rfl))
    rw [show rtabData digitT = Rows.laid_unicode_Digit from Pinned.digit_eq.symm] at this
    exact this
  have a4 : LaidIn Tryz.prog ((tabsW os).forCall (fun _ _ => 0) ⟨#[], args, []⟩).memory [("unicode.Letter", Rows.laid_unicode_Letter)] [6, (World.settled Tryz.prog default).heap.size + 8, (World.settled Tryz.prog default).heap.size + 6, (World.settled Tryz.prog default).heap.size + 7] := by
    have := laidIn_rtabT rTypes rExtra (w := ((tabsW os).forCall (fun _ _ => 0) ⟨#[], args, []⟩).memory) (name := "unicode.Letter") (g := 6) (by kernel_rfl) (by kernel_rfl) letterT ((World.settled Tryz.prog default).heap.size + 8) ((World.settled Tryz.prog default).heap.size + 6) ((World.settled Tryz.prog default).heap.size + 7) 220 223 (by kernel_rfl) (by kernel_rfl) (by kernel_rfl) (by kernel_rfl) (by kernel_rfl) (by decide) (by decide) (of_decide_eq_true (by kernel_rfl))
    rw [show rtabData letterT = Rows.laid_unicode_Letter from Pinned.letter_eq.symm] at this
    exact this
  have a5 : LaidIn Tryz.prog ((tabsW os).forCall (fun _ _ => 0) ⟨#[], args, []⟩).memory [("unicode/utf8.first", Rows.laid_unicode_utf8_first)] [10] := by
    rw [show Rows.laid_unicode_utf8_first = firstData from Pinned.utf8First_eq]
    exact LaidIn.of_run _ 10 (by kernel_rfl) (by kernel_rfl) (by kernel_rfl) (by kernel_rfl)
  exact (a1.append (a2.append (a3.append (a4.append a5 (by kernel_rfl)) (by kernel_rfl)) (by kernel_rfl)) (by kernel_rfl)).met
end Go.Proofs.YtdkpacgbniclhaaGreatDoor
