/- The given statement on FnMachineOnce: the row, from the lifted walk. -/
import Derived.Test.YtlclmpiocbkabaaDoorMachineOnceLift
namespace Go.Proofs.YtlclmpiocbkabaaDoor
open Go.ChangeShapes Go.WideShapes Go.ChangeAt Go.RowKit
/-- The row. -/
theorem row_FnMachineOnce : Rows.FnMachineOnceSaid :=
  OpenClaim.holds_of_wide 4 Tryd.f4 rfl rfl rfl rfl rfl rfl rfl ⟨rfl, rfl, rfl, rfl, rfl⟩ rfl rfl rfl rfl rfl (by kernel_rfl) Tryd.func4 (by kernel_rfl)
    (of_decide_eq_true (by kernel_rfl)) (by unfold Func.isWrapper; rw [if_neg (of_decide_eq_false (by kernel_rfl))]; exact ⟨rfl, rfl⟩)
    (fun os started H enc _ => lifted_FnMachineOnce os started H enc)

end Go.Proofs.YtlclmpiocbkabaaDoor
