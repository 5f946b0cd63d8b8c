/- The given statement on FnMachineSeq: the row, from the lifted walk. -/
import Derived.Test.YtlclmpiocbkabaaGreatDoorMachineSeqLift
namespace Go.Proofs.YtlclmpiocbkabaaGreatDoor
open Go.ChangeShapes Go.WideShapes Go.ChangeAt Go.RowKit
/-- The row. -/
theorem row_FnMachineSeq : Rows.FnMachineSeqSaid :=
  OpenClaim.holds_of_wide 4 Tryz.f4 rfl rfl rfl rfl rfl rfl rfl ⟨rfl, rfl, rfl, rfl, rfl⟩ rfl rfl rfl rfl rfl (by kernel_rfl) Tryz.func4 (by kernel_rfl)
    (of_decide_eq_true (by kernel_rfl)) (by unfold Func.isWrapper; rw [if_neg (of_decide_eq_false (by kernel_rfl))]; exact ⟨rfl, rfl⟩)
    (fun os started H enc _ => lifted_FnMachineSeq os started H enc)

end Go.Proofs.YtlclmpiocbkabaaGreatDoor
