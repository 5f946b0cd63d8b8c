/- The given statement on FnMachineAgain: the row, from the lifted walk. -/
import Derived.Test.YtlclmpiocbkabaaGreatDoorMachineAgainLift
namespace Go.Proofs.YtlclmpiocbkabaaGreatDoor
open Go.ChangeShapes Go.WideShapes Go.ChangeAt Go.RowKit
/-- The row. -/
theorem row_FnMachineAgain : Rows.FnMachineAgainSaid :=
  OpenClaim.holds_of_wide 3 Tryz.f3 rfl rfl rfl rfl rfl rfl rfl ⟨rfl, rfl, rfl, rfl, rfl⟩ rfl rfl rfl rfl rfl (by kernel_rfl) Tryz.func3 (by kernel_rfl)
    (of_decide_eq_true (by kernel_rfl)) (by unfold Func.isWrapper; rw [if_neg (of_decide_eq_false (by kernel_rfl))]; exact ⟨rfl, rfl⟩)
    (fun os started H enc _ => lifted_FnMachineAgain os started H enc)

end Go.Proofs.YtlclmpiocbkabaaGreatDoor
