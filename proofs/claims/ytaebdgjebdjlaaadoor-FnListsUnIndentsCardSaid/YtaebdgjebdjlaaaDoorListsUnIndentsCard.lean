/- The given statement on FnListsUnIndents: the card, from the row and the given tie. For every input at which the listed tables read as the text lays them. -/
import Derived.SevenTiedAt
import Derived.Test.YtaebdgjebdjlaaaDoorCards
import Derived.Test.YtaebdgjebdjlaaaDoorTie
import Derived.Test.YtaebdgjebdjlaaaDoorListsUnIndentsRow
namespace Go.Proofs.YtaebdgjebdjlaaaDoor
open Go
/-- The given statement: the card. -/
theorem proved_FnListsUnIndents : Rows.FnListsUnIndentsCardSaid :=
  Claim7.holds_tied_plain_at .later [] Rows.fnListsUnIndentsCard.laidKinds true Rows.fnListsUnIndentsCard.stood.harness true
    row_FnListsUnIndents (fun _ h => by cases h) (by kernel_rfl) (fun _ h => by cases h) fnListsUnIndents_row_tie rfl ⟨rfl, rfl⟩ (by kernel_rfl) rfl
    (fun f fn hf hfn => by
      obtain rfl : f = 12 := Option.some.inj ((show Tryd.prog.funcNamed "pub-tattersall/laws.FnListsUnIndents" = some 12 by kernel_rfl).symm.trans hf) |>.symm
      obtain rfl : fn = Tryd.f12 := (Option.some.inj (Tryd.func12.symm.trans hfn)).symm
      exact ⟨by kernel_rfl, fun j t ht => by
        rw [Tryd.params12] at ht
        have hm : t ∈ [37, 37, 5] := by simpa using Array.mem_of_getElem? ht
        have hall : ([37, 37, 5].all fun u => !Tryd.prog.wantsStandIn u) = true := by kernel_rfl
        exact (show Tryd.prog.wantsStandIn t = false by simpa using List.all_eq_true.1 hall t hm)⟩)
    (by kernel_rfl)
#print axioms proved_FnListsUnIndents
end Go.Proofs.YtaebdgjebdjlaaaDoor
