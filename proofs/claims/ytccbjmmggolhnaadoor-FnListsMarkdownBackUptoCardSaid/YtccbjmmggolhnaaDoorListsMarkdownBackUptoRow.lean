/- The given statement on FnListsMarkdownBack: the row, from the lifted walk. -/
import Derived.Test.YtccbjmmggolhnaaDoorMarkdownBackLift
namespace Go.Proofs.YtccbjmmggolhnaaDoor
open Go.ChangeShapes Go.WideShapes Go.ChangeAt Go.RowKit
/-- The row. -/
theorem row_FnListsMarkdownBackUpto : Rows.FnListsMarkdownBackUptoSaid :=
  OpenClaim.holds_of_cond 6 Tryd.f6 rfl rfl rfl rfl rfl rfl rfl ⟨rfl, rfl, rfl, rfl, rfl⟩ rfl rfl rfl rfl rfl (by kernel_rfl) Tryd.func6 (by kernel_rfl)
    (of_decide_eq_true (by kernel_rfl)) (by unfold Func.isWrapper; rw [if_neg (of_decide_eq_false (by kernel_rfl))]; exact ⟨rfl, rfl⟩)
    (fun os started H enc _ F => by rw [OpenClaim.pre_eq_preRow]; exact lifted_FnListsMarkdownBackUpto os started H enc F)

end Go.Proofs.YtccbjmmggolhnaaDoor
