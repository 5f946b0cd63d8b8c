/- A world that bears Go's own tables that the parser laws' rows list: a witness. What the condition on the tables gives a walk. -/
import Derived.Test.YtlclmpiocbkabaaGreatDoorRows
import Derived.Test.YtlclmpiocbkabaaGreatDoorParser3
import Derived.ProofKit
import Derived.LaidMore
import Derived.Stop.Joined
import Derived.PinnedBridge
import Derived.Lib.LaidTab
import Derived.Lib.LaidU8
import Derived.Test.YtlclmpiocbkabaaGreatDoorSeq
namespace Go.Proofs.YtlclmpiocbkabaaGreatDoor
open Go.ChangeShapes Go.WideShapes Go.ChangeAt Go.RowKit Go.Shelf Go.Lib
set_option linter.unusedVariables false

noncomputable def machPut (h : Array Obj) (g : Nat) (cs : Array Value) : Array Obj := h.modify g fun
  | .cells _ t frozen => .cells cs t frozen
  | o => o
/-- The settled world with two blocks more, the variables holding what their initialisers lay. -/
noncomputable def machW (os : Os) : World :=
  let N := (World.settled Tryz.prog os).heap.size
  let w0 := World.holding Tryz.prog os ⟨#[.cells (whiteT.map fun (z : Nat) => Value.int .u16 (z : Int)).toArray 147, .cells #[.slice (some ⟨N, 0, none⟩) 7 7, .slice none 0 0, .int .i64 2] 144], #[], []⟩
  let h1 := machPut w0.heap 6 ((List.range 16).flatMap fun i => [Value.int .u8 (accLo i), Value.int .u8 (accHi i)]).toArray
  let h2 := machPut h1 2 #[.pointer (some ⟨N + 1, 0, none⟩)]
  let h3 := machPut h2 1 (asciiSpaceTab.map fun z => Value.int .u8 z).toArray
  let h4 := machPut h3 5 (firstTab.map fun z => Value.int .u8 z).toArray
  let lay (d : DataW Unit) : Obj → Obj := fun o => match d, o with
    | .agg l, .cells _ t f => .cells (l.map fun d => match d with | .lit (.int k n) => Value.int k n | _ => Value.int .u8 0).toArray t f
    | _, o => o
  let h5 := ((h4.modify 3 (lay Rows.laid_math_bits_deBruijn32tab)).modify 4 (lay Rows.laid_math_bits_deBruijn64tab)).modify 0 (lay Rows.laid_internal_strconv_uint64pow10)
  { w0 with heap := h5 }
theorem machW_os (os : Os) : (machW os).os = os := rfl
theorem machW_shaped (os : Os) (args : Array Value) : ((machW os).forCall (fun _ _ => 0) ⟨#[], args, []⟩).Shaped Tryz.prog := World.shaped_of_RefB (by kernel_rfl) (by kernel_rfl)

set_option maxRecDepth 100000 in
theorem mach_laid (os : Os) (args : Array Value) : laidMet Tryz.prog Rows.fnMachineSeqRow.laid ((machW os).forCall (fun _ _ => 0) ⟨#[], args, []⟩).memory := by
  have a1 : LaidIn Tryz.prog ((machW os).forCall (fun _ _ => 0) ⟨#[], args, []⟩).memory [("math/bits.deBruijn32tab", Rows.laid_math_bits_deBruijn32tab), ("math/bits.deBruijn64tab", Rows.laid_math_bits_deBruijn64tab), ("internal/strconv.uint64pow10", Rows.laid_internal_strconv_uint64pow10), ("unicode/utf8.acceptRanges", Rows.laid_unicode_utf8_acceptRanges), ("unicode.White_Space", Rows.laid_unicode_White_Space), ("strings.asciiSpace", Rows.laid_strings_asciiSpace)] [3, 4, 0, 6, 2, 1, (World.settled Tryz.prog default).heap.size, (World.settled Tryz.prog default).heap.size + 1] :=
    LaidIn.of_run _ 10 (by kernel_rfl) (by kernel_rfl) (by kernel_rfl) (by kernel_rfl)
  have a5 : LaidIn Tryz.prog ((machW os).forCall (fun _ _ => 0) ⟨#[], args, []⟩).memory [("unicode/utf8.first", Rows.laid_unicode_utf8_first)] [5] := by
    rw [show Rows.laid_unicode_utf8_first = firstData from Pinned.utf8First_eq]
    exact LaidIn.of_run _ 10 (by kernel_rfl) (by kernel_rfl) (by kernel_rfl) (by kernel_rfl)
  exact (a1.append a5 (by kernel_rfl)).met

theorem mach_acc : (Rows.laid_unicode_utf8_acceptRanges : DataW Unit) = acceptData := by kernel_rfl
theorem mach_white : (Rows.laid_unicode_White_Space : DataW Unit) = whiteData := by kernel_rfl
theorem mach_sp : (Rows.laid_strings_asciiSpace : DataW Unit) = Lib.tabData .u8 asciiSpaceTab := by kernel_rfl
/-- A variable that is an array of numbers, off its reading. -/
theorem space_of_reads {W : World} (h : VarReads Tryz.prog W "strings.asciiSpace" Rows.laid_strings_asciiSpace) : Lib.TabIs Tryz.prog W "strings.asciiSpace" .u8 asciiSpaceTab := by
  obtain ⟨g, t, cs, fuel, p, hg, ht, hvar, hd⟩ := h
  have h1 : Tryz.prog.globalNamed "strings.asciiSpace" = some 1 := by kernel_rfl
  obtain rfl := Option.some.inj (h1.symm.trans hg)
  have h2 : (Tryz.prog.globals[1]?).map (·.type) = some 110 := by kernel_rfl
  obtain rfl := Option.some.inj (h2.symm.trans ht)
  rw [mach_sp] at hd
  have := Lib.cells_of_tab Tryz.underlying110 Tryz.underlying5 (by kernel_rfl) (by kernel_rfl) hd
  unfold Lib.TabIs
  rw [hvar, ← this]
theorem tabs_of_reads {W : World} (h1 : VarReads Tryz.prog W "strings.asciiSpace" Rows.laid_strings_asciiSpace) (h2 : VarReads Tryz.prog W "unicode/utf8.acceptRanges" Rows.laid_unicode_utf8_acceptRanges) (h3 : VarReads Tryz.prog W "unicode/utf8.first" Rows.laid_unicode_utf8_first) (h4 : VarReads Tryz.prog W "unicode.White_Space" Rows.laid_unicode_White_Space) : Tabs W := by
  rw [mach_acc] at h2
  rw [show Rows.laid_unicode_utf8_first = firstData from Pinned.utf8First_eq] at h3
  rw [mach_white] at h4
  exact ⟨space_of_reads h1,
    utf8Tabs_of_reads { Tryz.lays163 with } ⟨by kernel_rfl, by kernel_rfl, by kernel_rfl, by kernel_rfl, by kernel_rfl, by kernel_rfl, by kernel_rfl⟩ h3 h2,
    whiteTab_of_reads { Tryz.lays163 with } ⟨by kernel_rfl, by kernel_rfl, by kernel_rfl, by kernel_rfl, by kernel_rfl, by kernel_rfl, by kernel_rfl, by kernel_rfl⟩ h4⟩
theorem mach_tabs {W : World} (h : laidMetH Tryz.prog Rows.fnMachineSeqRow.laid W) : Tabs W ∧ TabW W := by
  rw [MakeChecks.laidMetH_plain _ _ _ (by kernel_rfl)] at h
  refine ⟨tabs_of_reads (Lib.laidMet.reads h (by simp [Rows.fnMachineSeqRow])) (Lib.laidMet.reads h (by simp [Rows.fnMachineSeqRow])) (Lib.laidMet.reads h (by simp [Rows.fnMachineSeqRow])) (Lib.laidMet.reads h (by simp [Rows.fnMachineSeqRow])), ?_⟩
  obtain ⟨g, t, cs, fuel, p, hg, ht, hvar, hd⟩ := Lib.laidMet.reads h (n := "internal/strconv.uint64pow10") (d := Rows.laid_internal_strconv_uint64pow10) (by simp [Rows.fnMachineSeqRow])
  have h1 : Tryz.prog.globalNamed "internal/strconv.uint64pow10" = some 0 := by kernel_rfl
  obtain rfl := Option.some.inj (h1.symm.trans hg)
  have h2 : (Tryz.prog.globals[0]?).map (·.type) = some 106 := by kernel_rfl
  obtain rfl := Option.some.inj (h2.symm.trans ht)
  have e : (Rows.laid_internal_strconv_uint64pow10 : DataW Unit) = Lib.tabData .u64 Lib.pow10Tab := by kernel_rfl
  rw [e] at hd
  have := Lib.cells_of_tab Tryz.underlying106 Tryz.underlying87 (by kernel_rfl) (by kernel_rfl) hd
  unfold TabW Lib.TabIs
  rw [hvar, ← this]
end Go.Proofs.YtlclmpiocbkabaaGreatDoor
