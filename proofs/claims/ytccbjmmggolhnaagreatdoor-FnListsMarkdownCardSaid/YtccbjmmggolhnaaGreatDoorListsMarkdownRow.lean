/- The given statement on FnListsMarkdown: the row, from the lifted walk. -/
import Derived.Test.YtccbjmmggolhnaaGreatDoorListsMarkdownLift
namespace Go.Proofs.YtccbjmmggolhnaaGreatDoor
open Go.ChangeShapes Go.WideShapes Go.ChangeAt Go.RowKit
/-- The row. -/
theorem row_FnListsMarkdown : Rows.FnListsMarkdownSaid :=
  OpenClaim.holds_of_wide 4 Tryz.f4 rfl rfl rfl rfl rfl rfl rfl ⟨rfl, rfl, rfl, rfl, rfl⟩ rfl rfl rfl rfl rfl (by kernel_rfl) Tryz.func4 (by kernel_rfl)
    (of_decide_eq_true (by kernel_rfl)) (by unfold Func.isWrapper; rw [if_neg (of_decide_eq_false (by kernel_rfl))]; exact ⟨rfl, rfl⟩)
    (fun os started H enc _ => lifted_FnListsMarkdown os started H enc)

end Go.Proofs.YtccbjmmggolhnaaGreatDoor
