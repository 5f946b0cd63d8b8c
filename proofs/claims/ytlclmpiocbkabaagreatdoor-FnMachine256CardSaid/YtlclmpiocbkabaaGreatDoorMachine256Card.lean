/- The given statement on FnMachine256: the card, from the row and the given tie. For every input at which the listed tables read as the text lays them. -/
import Derived.SevenTiedAt
import Derived.Test.YtlclmpiocbkabaaGreatDoorCards
import Derived.Test.YtlclmpiocbkabaaGreatDoorTie
import Derived.Test.YtlclmpiocbkabaaGreatDoorMachine256Row
namespace Go.Proofs.YtlclmpiocbkabaaGreatDoor
open Go
/-- The given statement: the card. -/
theorem proved_FnMachine256 : Rows.FnMachine256CardSaid :=
  Claim7.holds_tied_plain_at .later [] Rows.fnMachine256Card.laidKinds true Rows.fnMachine256Card.stood.harness true
    row_FnMachine256 (fun _ h => by cases h) (by kernel_rfl) (fun _ h => by cases h) fnMachine256_row_tie rfl ⟨rfl, rfl⟩ (by kernel_rfl) rfl
    (fun f fn hf hfn => by
      obtain rfl : f = 6 := Option.some.inj ((show Tryz.prog.funcNamed "pub-tattersall/laws.FnMachine256" = some 6 by kernel_rfl).symm.trans hf) |>.symm
      obtain rfl : fn = Tryz.f6 := (Option.some.inj (Tryz.func6.symm.trans hfn)).symm
      exact ⟨by kernel_rfl, fun j t ht => by
        rw [Tryz.params6] at ht
        have hm : t ∈ [4, 5] := by simpa using Array.mem_of_getElem? ht
        have hall : ([4, 5].all fun u => !Tryz.prog.wantsStandIn u) = true := by kernel_rfl
        exact (show Tryz.prog.wantsStandIn t = false by simpa using List.all_eq_true.1 hall t hm)⟩)
    (by kernel_rfl)
#print axioms proved_FnMachine256
end Go.Proofs.YtlclmpiocbkabaaGreatDoor
