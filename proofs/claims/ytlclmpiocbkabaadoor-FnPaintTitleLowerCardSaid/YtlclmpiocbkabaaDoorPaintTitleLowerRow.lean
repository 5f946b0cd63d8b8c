/- The given statement on FnPaintTitleLower: the row, from the lifted walk. -/
import Derived.Test.YtlclmpiocbkabaaDoorPaintTitleLowerLift
namespace Go.Proofs.YtlclmpiocbkabaaDoor
open Go.ChangeShapes Go.WideShapes Go.ChangeAt Go.RowKit
/-- The row. -/
theorem row_FnPaintTitleLower : Rows.FnPaintTitleLowerSaid :=
  OpenClaim.holds_of_wide 3 Tryd.f3 rfl rfl rfl rfl rfl rfl rfl ⟨rfl, rfl, rfl, rfl, rfl⟩ rfl rfl rfl rfl rfl (by kernel_rfl) Tryd.func3 (by kernel_rfl)
    (of_decide_eq_true (by kernel_rfl)) (by unfold Func.isWrapper; rw [if_neg (of_decide_eq_false (by kernel_rfl))]; exact ⟨rfl, rfl⟩)
    (fun os started H enc _ => lifted_FnPaintTitleLower os started H enc)

end Go.Proofs.YtlclmpiocbkabaaDoor
