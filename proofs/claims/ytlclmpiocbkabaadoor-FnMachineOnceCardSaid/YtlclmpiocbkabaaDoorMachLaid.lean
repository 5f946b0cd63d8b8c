/- A world that bears Go's own tables that the parser laws' rows list: a witness. What the condition on the tables gives a walk. -/
import Derived.Test.YtlclmpiocbkabaaDoorRows
import Derived.Test.YtlclmpiocbkabaaDoorParser3
import Derived.ProofKit
import Derived.LaidMore
import Derived.Stop.Joined
import Derived.PinnedBridge
import Derived.Lib.LaidTab
import Derived.Lib.LaidU8
namespace Go.Proofs.YtlclmpiocbkabaaDoor
open Go.ChangeShapes Go.WideShapes Go.ChangeAt Go.RowKit Go.Shelf Go.Lib
set_option linter.unusedVariables false

noncomputable def machPut (h : Array Obj) (g : Nat) (cs : Array Value) : Array Obj := h.modify g fun
  | .cells _ t frozen => .cells cs t frozen
  | o => o
/-- The settled world with two blocks more, the variables holding what their initialisers lay. -/
noncomputable def machW (os : Os) : World :=
  let N := (World.settled Tryd.prog os).heap.size
  let w0 := World.holding Tryd.prog os ⟨#[.cells (whiteT.map fun (z : Nat) => Value.int .u16 (z : Int)).toArray 161, .cells #[.slice (some ⟨N, 0, none⟩) 7 7, .slice none 0 0, .int .i64 2] 158], #[], []⟩
  let h1 := machPut w0.heap 8 ((List.range 16).flatMap fun i => [Value.int .u8 (accLo i), Value.int .u8 (accHi i)]).toArray
  let h2 := machPut h1 4 #[.pointer (some ⟨N + 1, 0, none⟩)]
  let h3 := machPut h2 5 (asciiSpaceTab.map fun z => Value.int .u8 z).toArray
  let h4 := machPut h3 7 (firstTab.map fun z => Value.int .u8 z).toArray
  { w0 with heap := h4 }
theorem machW_os (os : Os) : (machW os).os = os := rfl
theorem machW_shaped (os : Os) (args : Array Value) : ((machW os).forCall (fun _ _ => 0) ⟨#[], args, []⟩).Shaped Tryd.prog := World.shaped_of_RefB (by kernel_rfl) (by kernel_rfl)

set_option maxRecDepth 100000 in
theorem mach_laid (os : Os) (args : Array Value) : laidMet Tryd.prog Rows.fnMachineOnceRow.laid ((machW os).forCall (fun _ _ => 0) ⟨#[], args, []⟩).memory := by
  have a1 : LaidIn Tryd.prog ((machW os).forCall (fun _ _ => 0) ⟨#[], args, []⟩).memory [("unicode/utf8.acceptRanges", Rows.laid_unicode_utf8_acceptRanges), ("unicode.White_Space", Rows.laid_unicode_White_Space), ("strings.asciiSpace", Rows.laid_strings_asciiSpace)] [8, 4, 5, (World.settled Tryd.prog default).heap.size, (World.settled Tryd.prog default).heap.size + 1] :=
    LaidIn.of_run _ 10 (by kernel_rfl) (by kernel_rfl) (by kernel_rfl) (by kernel_rfl)
  have a5 : LaidIn Tryd.prog ((machW os).forCall (fun _ _ => 0) ⟨#[], args, []⟩).memory [("unicode/utf8.first", Rows.laid_unicode_utf8_first)] [7] := by
    rw [show Rows.laid_unicode_utf8_first = firstData from Pinned.utf8First_eq]
    exact LaidIn.of_run _ 10 (by kernel_rfl) (by kernel_rfl) (by kernel_rfl) (by kernel_rfl)
  exact (a1.append a5 (by kernel_rfl)).met

theorem mach_acc : (Rows.laid_unicode_utf8_acceptRanges : DataW Unit) = acceptData := by kernel_rfl
theorem mach_white : (Rows.laid_unicode_White_Space : DataW Unit) = whiteData := by kernel_rfl
theorem mach_sp : (Rows.laid_strings_asciiSpace : DataW Unit) = Lib.tabData .u8 asciiSpaceTab := by kernel_rfl
/-- A variable that is an array of numbers, off its reading. -/
theorem space_of_reads {W : World} (h : VarReads Tryd.prog W "strings.asciiSpace" Rows.laid_strings_asciiSpace) : Lib.TabIs Tryd.prog W "strings.asciiSpace" .u8 asciiSpaceTab := by
  obtain ⟨g, t, cs, fuel, p, hg, ht, hvar, hd⟩ := h
  have h1 : Tryd.prog.globalNamed "strings.asciiSpace" = some 5 := by kernel_rfl
  obtain rfl := Option.some.inj (h1.symm.trans hg)
  have h2 : (Tryd.prog.globals[5]?).map (·.type) = some 123 := by kernel_rfl
  obtain rfl := Option.some.inj (h2.symm.trans ht)
  rw [mach_sp] at hd
  have := Lib.cells_of_tab Tryd.underlying123 Tryd.underlying5 (by kernel_rfl) (by kernel_rfl) hd
  unfold Lib.TabIs
  rw [hvar, ← this]
theorem tabs_of_reads {W : World} (h1 : VarReads Tryd.prog W "strings.asciiSpace" Rows.laid_strings_asciiSpace) (h2 : VarReads Tryd.prog W "unicode/utf8.acceptRanges" Rows.laid_unicode_utf8_acceptRanges) (h3 : VarReads Tryd.prog W "unicode/utf8.first" Rows.laid_unicode_utf8_first) (h4 : VarReads Tryd.prog W "unicode.White_Space" Rows.laid_unicode_White_Space) : Tabs W := by
  rw [mach_acc] at h2
  rw [show Rows.laid_unicode_utf8_first = firstData from Pinned.utf8First_eq] at h3
  rw [mach_white] at h4
  exact ⟨space_of_reads h1,
    utf8Tabs_of_reads { Tryd.lays163 with } ⟨by kernel_rfl, by kernel_rfl, by kernel_rfl, by kernel_rfl, by kernel_rfl, by kernel_rfl, by kernel_rfl⟩ h3 h2,
    whiteTab_of_reads { Tryd.lays163 with } ⟨by kernel_rfl, by kernel_rfl, by kernel_rfl, by kernel_rfl, by kernel_rfl, by kernel_rfl, by kernel_rfl, by kernel_rfl⟩ h4⟩
theorem mach_tabs {W : World} (h : laidMetH Tryd.prog Rows.fnMachineOnceRow.laid W) : Tabs W := by
  rw [MakeChecks.laidMetH_plain _ _ _ (by kernel_rfl)] at h
  exact tabs_of_reads (Lib.laidMet.reads h (by simp [Rows.fnMachineOnceRow])) (Lib.laidMet.reads h (by simp [Rows.fnMachineOnceRow])) (Lib.laidMet.reads h (by simp [Rows.fnMachineOnceRow])) (Lib.laidMet.reads h (by simp [Rows.fnMachineOnceRow]))
end Go.Proofs.YtlclmpiocbkabaaDoor
