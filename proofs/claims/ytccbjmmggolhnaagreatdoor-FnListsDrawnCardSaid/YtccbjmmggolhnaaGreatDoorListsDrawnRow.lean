/- The given statement on FnListsDrawn: the row, from the lifted walk. -/
import Derived.Test.YtccbjmmggolhnaaGreatDoorListsDrawnLift
namespace Go.Proofs.YtccbjmmggolhnaaGreatDoor
open Go.ChangeShapes Go.WideShapes Go.ChangeAt Go.RowKit
/-- The row. -/
theorem row_FnListsDrawn : Rows.FnListsDrawnSaid :=
  OpenClaim.holds_of_wide 3 Tryz.f3 rfl rfl rfl rfl rfl rfl rfl ⟨rfl, rfl, rfl, rfl, rfl⟩ rfl rfl rfl rfl rfl (by kernel_rfl) Tryz.func3 (by kernel_rfl)
    (of_decide_eq_true (by kernel_rfl)) (by unfold Func.isWrapper; rw [if_neg (of_decide_eq_false (by kernel_rfl))]; exact ⟨rfl, rfl⟩)
    (fun os started H enc _ => lifted_FnListsDrawn os started H enc)

end Go.Proofs.YtccbjmmggolhnaaGreatDoor
