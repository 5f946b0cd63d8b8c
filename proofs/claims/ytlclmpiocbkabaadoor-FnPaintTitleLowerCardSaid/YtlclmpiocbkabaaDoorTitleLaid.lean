/- A world that bears Go's own tables that FnPaintTitleLower's row lists: a witness. What the condition on the tables gives the walk. -/
import Derived.Test.YtlclmpiocbkabaaDoorRows
import Derived.Test.YtlclmpiocbkabaaDoorShelf
import Derived.Test.YtlclmpiocbkabaaDoorSeq
import Derived.ProofKit
import Derived.LaidMore
import Derived.Stop.Joined
import Derived.PinnedBridge
import Derived.Lib.LaidTab
import Derived.Lib.LaidU8
import Derived.Lib.LaidRTabT
import Derived.Lib.LaidCaseMet
import Derived.Great.CaseRows
namespace Go.Proofs.YtlclmpiocbkabaaDoor
open Go.ChangeShapes Go.WideShapes Go.ChangeAt Go.RowKit Go.Shelf Go.Lib Go.Great

theorem rTypes : RTypes Tryd.prog Tryd.lays261_ren := RTypes.of261 Tryd.lays261
theorem rExtra : RExtra Tryd.prog Tryd.lays261_ren := ⟨by kernel_rfl, by kernel_rfl, by kernel_rfl, by kernel_rfl, by kernel_rfl, by kernel_rfl, by kernel_rfl, by kernel_rfl⟩
theorem cTypes : CTypes Tryd.prog 122 183 181 93 21 := ⟨by kernel_rfl, by kernel_rfl, by kernel_rfl, by kernel_rfl, by kernel_rfl, by kernel_rfl, by kernel_rfl, by kernel_rfl, by kernel_rfl⟩

/-- The settled world with nine blocks more, the seven variables holding what their initialisers lay. -/
noncomputable def titleW (os : Os) : World :=
  let N := (World.settled Tryd.prog os).heap.size
  let w0 := World.holding Tryd.prog os ⟨#[.cells (whiteT.map fun (z : Nat) => Value.int .u16 (z : Int)).toArray 161, .cells #[.slice (some ⟨N, 0, none⟩) 7 7, .slice none 0 0, .int .i64 2] 158,
    .cells (caseT.flatMap cells5).toArray 183,
    .cells (rgCells .u16 digitT.r16) 161, .cells (rgCells .u32 digitT.r32) 164, .cells #[.slice (some ⟨N + 3, 0, none⟩) digitT.r16.size digitT.r16.size, .slice (some ⟨N + 4, 0, none⟩) digitT.r32.size digitT.r32.size, .int .i64 digitT.off] 158,
    .cells (rgCells .u16 letterT.r16) 161, .cells (rgCells .u32 letterT.r32) 164, .cells #[.slice (some ⟨N + 6, 0, none⟩) letterT.r16.size letterT.r16.size, .slice (some ⟨N + 7, 0, none⟩) letterT.r32.size letterT.r32.size, .int .i64 letterT.off] 158], #[], []⟩
  let put (h : Array Obj) (g : Nat) (cs : Array Value) : Array Obj := h.modify g fun
    | .cells _ t frozen => .cells cs t frozen
    | o => o
  let h1 := put w0.heap 8 ((List.range 16).flatMap fun i => [Value.int .u8 (accLo i), Value.int .u8 (accHi i)]).toArray
  let h2 := put h1 4 #[.pointer (some ⟨N + 1, 0, none⟩)]
  let h3 := put h2 1 (propertiesTab.map fun z => Value.int .u8 z).toArray
  let h4 := put h3 0 #[.slice (some ⟨N + 2, 0, none⟩) caseT.length caseT.length]
  let h5 := put h4 3 #[.pointer (some ⟨N + 5, 0, none⟩)]
  let h6 := put h5 2 #[.pointer (some ⟨N + 8, 0, none⟩)]
  let h7 := put h6 7 (firstTab.map fun z => Value.int .u8 z).toArray
  let lay (d : DataW Unit) : Obj → Obj := fun o => match d, o with
    | .agg l, .cells _ t f => .cells (l.map fun d => match d with | .lit (.int k n) => Value.int k n | _ => Value.int .u8 0).toArray t f
    | _, o => o
  let h8 := ((h7.modify 10 (lay Rows.laid_math_bits_deBruijn32tab)).modify 11 (lay Rows.laid_math_bits_deBruijn64tab)).modify 9 (lay Rows.laid_internal_strconv_uint64pow10)
  { w0 with heap := h8 }
theorem titleW_os (os : Os) : (titleW os).os = os := rfl
theorem titleW_shaped (os : Os) (args : Array Value) : ((titleW os).forCall (fun _ _ => 0) ⟨#[], args, []⟩).Shaped Tryd.prog := World.shaped_of_RefB (by kernel_rfl) (by kernel_rfl)

set_option maxRecDepth 100000 in
theorem title_laid (os : Os) (args : Array Value) : laidMet Tryd.prog Rows.fnPaintTitleLowerRow.laid ((titleW os).forCall (fun _ _ => 0) ⟨#[], args, []⟩).memory := by
  have a0 : LaidIn Tryd.prog ((titleW os).forCall (fun _ _ => 0) ⟨#[], args, []⟩).memory [("math/bits.deBruijn32tab", Rows.laid_math_bits_deBruijn32tab), ("math/bits.deBruijn64tab", Rows.laid_math_bits_deBruijn64tab), ("internal/strconv.uint64pow10", Rows.laid_internal_strconv_uint64pow10)] [10, 11, 9] :=
    LaidIn.of_run _ 10 (by kernel_rfl) (by kernel_rfl) (by kernel_rfl) (by kernel_rfl)
  have a1 : LaidIn Tryd.prog ((titleW os).forCall (fun _ _ => 0) ⟨#[], args, []⟩).memory [("unicode/utf8.acceptRanges", Rows.laid_unicode_utf8_acceptRanges), ("unicode.White_Space", Rows.laid_unicode_White_Space), ("unicode.properties", Rows.laid_unicode_properties)] [8, 4, 1, (World.settled Tryd.prog default).heap.size, (World.settled Tryd.prog default).heap.size + 1] :=
    LaidIn.of_run _ 10 (by kernel_rfl) (by kernel_rfl) (by kernel_rfl) (by kernel_rfl)
  have a2 : LaidIn Tryd.prog ((titleW os).forCall (fun _ _ => 0) ⟨#[], args, []⟩).memory [("unicode.CaseRanges", Rows.laid_unicode_CaseRanges)] [0, (World.settled Tryd.prog default).heap.size + 2] := by
    have := laidIn_case cTypes (w := ((titleW os).forCall (fun _ _ => 0) ⟨#[], args, []⟩).memory) (name := "unicode.CaseRanges") (g := 0) (B := (World.settled Tryd.prog default).heap.size + 2) (tg := 122) (tb := 183) caseT (by kernel_rfl) (by kernel_rfl) (Nat.le_of_ble_eq_true (by kernel_rfl)) (by kernel_rfl) (by kernel_rfl) (by kernel_rfl) (Nat.ne_of_beq_eq_false (by kernel_rfl))
    rw [show (.slice (caseT.map rowData) [] : DataW Unit) = Rows.laid_unicode_CaseRanges from Pinned.caseRanges_eq.symm] at this
    exact this
  have a3 : LaidIn Tryd.prog ((titleW os).forCall (fun _ _ => 0) ⟨#[], args, []⟩).memory [("unicode.Digit", Rows.laid_unicode_Digit)] [3, (World.settled Tryd.prog default).heap.size + 5, (World.settled Tryd.prog default).heap.size + 3, (World.settled Tryd.prog default).heap.size + 4] := by
    have := laidIn_rtabT rTypes rExtra (w := ((titleW os).forCall (fun _ _ => 0) ⟨#[], args, []⟩).memory) (name := "unicode.Digit") (g := 3) (by kernel_rfl) (by kernel_rfl) digitT ((World.settled Tryd.prog default).heap.size + 5) ((World.settled Tryd.prog default).heap.size + 3) ((World.settled Tryd.prog default).heap.size + 4) 161 164 (by kernel_rfl) (by kernel_rfl) (by kernel_rfl) (by kernel_rfl) (by kernel_rfl) (by decide) (by decide) (of_decide_eq_true (by kernel_rfl))
    rw [show rtabData digitT = Rows.laid_unicode_Digit from Pinned.digit_eq.symm] at this
    exact this
  have a4 : LaidIn Tryd.prog ((titleW os).forCall (fun _ _ => 0) ⟨#[], args, []⟩).memory [("unicode.Letter", Rows.laid_unicode_Letter)] [2, (World.settled Tryd.prog default).heap.size + 8, (World.settled Tryd.prog default).heap.size + 6, (World.settled Tryd.prog default).heap.size + 7] := by
    have := laidIn_rtabT rTypes rExtra (w := ((titleW os).forCall (fun _ _ => 0) ⟨#[], args, []⟩).memory) (name := "unicode.Letter") (g := 2) (by kernel_rfl) (by kernel_rfl) letterT ((World.settled Tryd.prog default).heap.size + 8) ((World.settled Tryd.prog default).heap.size + 6) ((World.settled Tryd.prog default).heap.size + 7) 161 164 (by kernel_rfl) (by kernel_rfl) (by kernel_rfl) (by kernel_rfl) (by kernel_rfl) (by decide) (by decide) (of_decide_eq_true (by kernel_rfl))
    rw [show rtabData letterT = Rows.laid_unicode_Letter from Pinned.letter_eq.symm] at this
    exact this
  have a5 : LaidIn Tryd.prog ((titleW os).forCall (fun _ _ => 0) ⟨#[], args, []⟩).memory [("unicode/utf8.first", Rows.laid_unicode_utf8_first)] [7] := by
    rw [show Rows.laid_unicode_utf8_first = firstData from Pinned.utf8First_eq]
    exact LaidIn.of_run _ 10 (by kernel_rfl) (by kernel_rfl) (by kernel_rfl) (by kernel_rfl)
  exact (a0.append (a1.append (a2.append (a3.append (a4.append a5 (by kernel_rfl)) (by kernel_rfl)) (by kernel_rfl)) (by kernel_rfl)) (by kernel_rfl)).met
theorem title_tabs {W : World} (h : laidMetH Tryd.prog Rows.fnPaintTitleLowerRow.laid W) : TabW W := by
  rw [MakeChecks.laidMetH_plain _ _ _ (by kernel_rfl)] at h
  obtain ⟨ps, hv, _⟩ := h
  obtain ⟨g, t, cs, fuel, p, hg, ht, hvar, hd⟩ := Lib.LaidVars_reads hv "internal/strconv.uint64pow10" Rows.laid_internal_strconv_uint64pow10 (by simp [Rows.fnPaintTitleLowerRow])
  have h1 : Tryd.prog.globalNamed "internal/strconv.uint64pow10" = some 9 := by kernel_rfl
  obtain rfl := Option.some.inj (h1.symm.trans hg)
  have h2 : (Tryd.prog.globals[9]?).map (·.type) = some 178 := by kernel_rfl
  obtain rfl := Option.some.inj (h2.symm.trans ht)
  have e : (Rows.laid_internal_strconv_uint64pow10 : DataW Unit) = Lib.tabData .u64 Lib.pow10Tab := by kernel_rfl
  rw [e] at hd
  have := Lib.cells_of_tab Tryd.underlying178 Tryd.underlying118 (by kernel_rfl) (by kernel_rfl) hd
  unfold TabW Lib.TabIs
  rw [hvar, ← this]
end Go.Proofs.YtlclmpiocbkabaaDoor
