/- The given statement on FnListsUnIndents: the row, from the lifted walk. -/
import Derived.Test.YtaebdgjebdjlaaaDoorListsUnIndentsLift
namespace Go.Proofs.YtaebdgjebdjlaaaDoor
open Go.ChangeShapes Go.WideShapes Go.ChangeAt Go.RowKit
/-- The row. -/
theorem row_FnListsUnIndents : Rows.FnListsUnIndentsSaid :=
  OpenClaim.holds_of_wide 12 Tryd.f12 rfl rfl rfl rfl rfl rfl rfl ⟨rfl, rfl, rfl, rfl, rfl⟩ rfl rfl rfl rfl rfl (by kernel_rfl) Tryd.func12 (by kernel_rfl)
    (of_decide_eq_true (by kernel_rfl)) (by unfold Func.isWrapper; rw [if_neg (of_decide_eq_false (by kernel_rfl))]; exact ⟨rfl, rfl⟩)
    (fun os started H enc _ => lifted_FnListsUnIndents os started H enc)

end Go.Proofs.YtaebdgjebdjlaaaDoor
