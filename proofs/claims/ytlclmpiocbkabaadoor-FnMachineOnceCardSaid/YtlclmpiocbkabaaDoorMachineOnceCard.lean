/- The given statement on FnMachineOnce: the card, from the row and the given tie. For every input at which the listed tables read as the text lays them. -/
import Derived.SevenTiedAt
import Derived.Test.YtlclmpiocbkabaaDoorCards
import Derived.Test.YtlclmpiocbkabaaDoorTie
import Derived.Test.YtlclmpiocbkabaaDoorMachineOnceRow
namespace Go.Proofs.YtlclmpiocbkabaaDoor
open Go
/-- The given statement: the card. -/
theorem proved_FnMachineOnce : Rows.FnMachineOnceCardSaid :=
  Claim7.holds_tied_plain_at .later [] Rows.fnMachineOnceCard.laidKinds true Rows.fnMachineOnceCard.stood.harness true
    row_FnMachineOnce (fun _ h => by cases h) (by kernel_rfl) (fun _ h => by cases h) fnMachineOnce_row_tie rfl ⟨rfl, rfl⟩ (by kernel_rfl) rfl
    (fun f fn hf hfn => by
      obtain rfl : f = 4 := Option.some.inj ((show Tryd.prog.funcNamed "pub-tattersall/laws.FnMachineOnce" = some 4 by kernel_rfl).symm.trans hf) |>.symm
      obtain rfl : fn = Tryd.f4 := (Option.some.inj (Tryd.func4.symm.trans hfn)).symm
      exact ⟨by kernel_rfl, fun j t ht => by
        rw [Tryd.params4] at ht
        have hm : t ∈ [9] := by simpa using Array.mem_of_getElem? ht
        have hall : ([9].all fun u => !Tryd.prog.wantsStandIn u) = true := by kernel_rfl
        exact (show Tryd.prog.wantsStandIn t = false by simpa using List.all_eq_true.1 hall t hm)⟩)
    (by kernel_rfl)
#print axioms proved_FnMachineOnce
end Go.Proofs.YtlclmpiocbkabaaDoor
