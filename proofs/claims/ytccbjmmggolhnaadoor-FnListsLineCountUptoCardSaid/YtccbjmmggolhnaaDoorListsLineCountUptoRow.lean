/- The given statement on FnListsLineCount: the row, from the lifted walk. -/
import Derived.Test.YtccbjmmggolhnaaDoorLineCountLift
namespace Go.Proofs.YtccbjmmggolhnaaDoor
open Go.ChangeShapes Go.WideShapes Go.ChangeAt Go.RowKit
/-- The row. -/
theorem row_FnListsLineCountUpto : Rows.FnListsLineCountUptoSaid :=
  OpenClaim.holds_of_cond 7 Tryd.f7 rfl rfl rfl rfl rfl rfl rfl ⟨rfl, rfl, rfl, rfl, rfl⟩ rfl rfl rfl rfl rfl (by kernel_rfl) Tryd.func7 (by kernel_rfl)
    (of_decide_eq_true (by kernel_rfl)) (by unfold Func.isWrapper; rw [if_neg (of_decide_eq_false (by kernel_rfl))]; exact ⟨rfl, rfl⟩)
    (fun os started H enc _ F => by rw [OpenClaim.pre_eq_preRow]; exact lifted_FnListsLineCountUpto os started H enc F)

end Go.Proofs.YtccbjmmggolhnaaDoor
