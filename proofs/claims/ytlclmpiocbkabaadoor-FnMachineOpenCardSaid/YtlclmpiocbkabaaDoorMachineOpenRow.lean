/- The given statement on FnMachineOpen: the row, from the lifted walk. -/
import Derived.Test.YtlclmpiocbkabaaDoorMachineOpenLift
namespace Go.Proofs.YtlclmpiocbkabaaDoor
open Go.ChangeShapes Go.WideShapes Go.ChangeAt Go.RowKit
/-- The row. -/
theorem row_FnMachineOpen : Rows.FnMachineOpenSaid :=
  OpenClaim.holds_of_wide 5 Tryd.f5 rfl rfl rfl rfl rfl rfl rfl ⟨rfl, rfl, rfl, rfl, rfl⟩ rfl rfl rfl rfl rfl (by kernel_rfl) Tryd.func5 (by kernel_rfl)
    (of_decide_eq_true (by kernel_rfl)) (by unfold Func.isWrapper; rw [if_neg (of_decide_eq_false (by kernel_rfl))]; exact ⟨rfl, rfl⟩)
    (fun os started H enc _ => lifted_FnMachineOpen os started H enc)

end Go.Proofs.YtlclmpiocbkabaaDoor
