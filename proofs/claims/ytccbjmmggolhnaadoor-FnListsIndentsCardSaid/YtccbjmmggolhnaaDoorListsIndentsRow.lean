/- The given statement on FnListsIndents: the row, from the lifted walk. -/
import Derived.Test.YtccbjmmggolhnaaDoorListsIndentsLift
namespace Go.Proofs.YtccbjmmggolhnaaDoor
open Go.ChangeShapes Go.WideShapes Go.ChangeAt Go.RowKit
/-- The row. -/
theorem row_FnListsIndents : Rows.FnListsIndentsSaid :=
  OpenClaim.holds_of_wide 3 Tryd.f3 rfl rfl rfl rfl rfl rfl rfl ⟨rfl, rfl, rfl, rfl, rfl⟩ rfl rfl rfl rfl rfl (by kernel_rfl) Tryd.func3 (by kernel_rfl)
    (of_decide_eq_true (by kernel_rfl)) (by unfold Func.isWrapper; rw [if_neg (of_decide_eq_false (by kernel_rfl))]; exact ⟨rfl, rfl⟩)
    (fun os started H enc _ => lifted_FnListsIndents os started H enc)

end Go.Proofs.YtccbjmmggolhnaaDoor
