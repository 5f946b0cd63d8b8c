/- A world that bears the listed tables: the one that the program's own start leaves. What the condition on the tables gives a walk. -/
import Derived.Test.YtaebdgjebdjlaaaDoorRows
import Derived.Test.YtaebdgjebdjlaaaDoorTie
import Derived.Test.YtaebdgjebdjlaaaDoorSeq
import Derived.ProofKit
import Derived.LaidMore
import Derived.Stop.Joined
import Derived.Lib.LaidTab
import Derived.Lib.LaidU8
namespace Go.Proofs.YtaebdgjebdjlaaaDoor
open Go.ChangeShapes Go.WideShapes Go.ChangeAt Go.RowKit

/-- A table's cells laid in a variable's block. -/
def cellsOfData : DataW Unit → Array Value
  | .agg l => (l.map fun d => match d with | .lit (.int k n) => Value.int k n | _ => Value.int .u8 0).toArray
  | _ => #[]
def layData (d : DataW Unit) : Obj → Obj
  | .cells _ t f => .cells (cellsOfData d) t f
  | o => o
noncomputable def doorW (os : Os) : World :=
  let w0 := World.holding Tryd.prog os ⟨#[], #[], []⟩
  { w0 with heap := ((w0.heap.modify 10 (layData Rows.laid_math_bits_deBruijn32tab)).modify 11 (layData Rows.laid_math_bits_deBruijn64tab)).modify 1 (layData Rows.laid_internal_strconv_uint64pow10) }
theorem doorW_os (os : Os) : (doorW os).os = os := rfl
theorem doorW_shaped (os : Os) (args : Array Value) : ((doorW os).forCall (fun _ _ => 0) ⟨#[], args, []⟩).Shaped Tryd.prog := World.shaped_of_RefB (by kernel_rfl) (by kernel_rfl)
theorem door_met_FnPaintEscape (os : Os) (args : Array Value) : laidMetH Tryd.prog Rows.fnPaintEscapeRow.laid ((doorW os).forCall (fun _ _ => 0) ⟨#[], args, []⟩).memory :=
  laidMetH_of_parts3 (fuel := 8) (laidMet_of_run' 8 (by kernel_rfl) (by kernel_rfl)) (by kernel_rfl) (by kernel_rfl)
theorem tab_of_laid {W : World} (h : laidMetH Tryd.prog Rows.fnPaintEscapeRow.laid W) : TabW W := by
  rw [MakeChecks.laidMetH_plain _ _ _ (by kernel_rfl)] at h
  obtain ⟨ps, hv, _⟩ := h
  obtain ⟨g, t, cs, fuel, p, hg, ht, hvar, hd⟩ := Lib.LaidVars_reads hv "internal/strconv.uint64pow10" Rows.laid_internal_strconv_uint64pow10 (by simp [Rows.fnPaintEscapeRow])
  have h1 : Tryd.prog.globalNamed "internal/strconv.uint64pow10" = some 1 := by kernel_rfl
  obtain rfl := Option.some.inj (h1.symm.trans hg)
  have h2 : (Tryd.prog.globals[1]?).map (·.type) = some 200 := by kernel_rfl
  obtain rfl := Option.some.inj (h2.symm.trans ht)
  have e : (Rows.laid_internal_strconv_uint64pow10 : DataW Unit) = Lib.tabData .u64 Lib.pow10Tab := by kernel_rfl
  rw [e] at hd
  have := Lib.cells_of_tab Tryd.underlying200 Tryd.underlying177 (by kernel_rfl) (by kernel_rfl) hd
  unfold TabW Lib.TabIs
  rw [hvar, ← this]
end Go.Proofs.YtaebdgjebdjlaaaDoor
