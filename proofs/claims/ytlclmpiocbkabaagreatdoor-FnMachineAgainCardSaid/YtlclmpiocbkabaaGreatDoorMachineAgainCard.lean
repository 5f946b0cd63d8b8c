/- The given statement on FnMachineAgain: the card, from the row and the given tie. For every input at which the listed tables read as the text lays them. -/
import Derived.SevenTiedAt
import Derived.Test.YtlclmpiocbkabaaGreatDoorCards
import Derived.Test.YtlclmpiocbkabaaGreatDoorTie
import Derived.Test.YtlclmpiocbkabaaGreatDoorMachineAgainRow
namespace Go.Proofs.YtlclmpiocbkabaaGreatDoor
open Go
/-- The given statement: the card. -/
theorem proved_FnMachineAgain : Rows.FnMachineAgainCardSaid :=
  Claim7.holds_tied_plain_at .later [] Rows.fnMachineAgainCard.laidKinds true Rows.fnMachineAgainCard.stood.harness true
    row_FnMachineAgain (fun _ h => by cases h) (by kernel_rfl) (fun _ h => by cases h) fnMachineAgain_row_tie rfl ⟨rfl, rfl⟩ (by kernel_rfl) rfl
    (fun f fn hf hfn => by
      obtain rfl : f = 3 := Option.some.inj ((show Tryz.prog.funcNamed "pub-tattersall/laws.FnMachineAgain" = some 3 by kernel_rfl).symm.trans hf) |>.symm
      obtain rfl : fn = Tryz.f3 := (Option.some.inj (Tryz.func3.symm.trans hfn)).symm
      exact ⟨by kernel_rfl, fun j t ht => by
        rw [Tryz.params3] at ht
        have hm : t ∈ [22] := by simpa using Array.mem_of_getElem? ht
        have hall : ([22].all fun u => !Tryz.prog.wantsStandIn u) = true := by kernel_rfl
        exact (show Tryz.prog.wantsStandIn t = false by simpa using List.all_eq_true.1 hall t hm)⟩)
    (by kernel_rfl)
#print axioms proved_FnMachineAgain
end Go.Proofs.YtlclmpiocbkabaaGreatDoor
