/- The given statement on FnMachineUnended: the card, from the row and the given tie. For every input at which the listed tables read as the text lays them. -/
import Derived.SevenTiedAt
import Derived.Test.YtlclmpiocbkabaaGreatDoorCards
import Derived.Test.YtlclmpiocbkabaaGreatDoorTie
import Derived.Test.YtlclmpiocbkabaaGreatDoorMachineUnendedRow
namespace Go.Proofs.YtlclmpiocbkabaaGreatDoor
open Go
/-- The given statement: the card. -/
theorem proved_FnMachineUnended : Rows.FnMachineUnendedCardSaid :=
  Claim7.holds_tied_plain_at .later [] Rows.fnMachineUnendedCard.laidKinds true Rows.fnMachineUnendedCard.stood.harness true
    row_FnMachineUnended (fun _ h => by cases h) (by kernel_rfl) (fun _ h => by cases h) fnMachineUnended_row_tie rfl ⟨rfl, rfl⟩ (by kernel_rfl) rfl
    (fun f fn hf hfn => by
      obtain rfl : f = 5 := Option.some.inj ((show Tryz.prog.funcNamed "pub-tattersall/laws.FnMachineUnended" = some 5 by kernel_rfl).symm.trans hf) |>.symm
      obtain rfl : fn = Tryz.f5 := (Option.some.inj (Tryz.func5.symm.trans hfn)).symm
      exact ⟨by kernel_rfl, fun j t ht => by
        rw [Tryz.params5] at ht
        have hm : t ∈ [22, 3] := by simpa using Array.mem_of_getElem? ht
        have hall : ([22, 3].all fun u => !Tryz.prog.wantsStandIn u) = true := by kernel_rfl
        exact (show Tryz.prog.wantsStandIn t = false by simpa using List.all_eq_true.1 hall t hm)⟩)
    (by kernel_rfl)
#print axioms proved_FnMachineUnended
end Go.Proofs.YtlclmpiocbkabaaGreatDoor
