/- The given statement on FnListsIndents: the card, from the row and the given tie. For every input at which the listed tables read as the text lays them. -/
import Derived.SevenTiedAt
import Derived.Test.YtccbjmmggolhnaaDoorCards
import Derived.Test.YtccbjmmggolhnaaDoorTie
import Derived.Test.YtccbjmmggolhnaaDoorListsIndentsRow
namespace Go.Proofs.YtccbjmmggolhnaaDoor
open Go
/-- The given statement: the card. -/
theorem proved_FnListsIndents : Rows.FnListsIndentsCardSaid :=
  Claim7.holds_tied_plain_at .later [] Rows.fnListsIndentsCard.laidKinds true Rows.fnListsIndentsCard.stood.harness true
    row_FnListsIndents (fun _ h => by cases h) (by kernel_rfl) (fun _ h => by cases h) fnListsIndents_row_tie rfl ⟨rfl, rfl⟩ (by kernel_rfl) rfl
    (fun f fn hf hfn => by
      obtain rfl : f = 3 := Option.some.inj ((show Tryd.prog.funcNamed "pub-tattersall/laws.FnListsIndents" = some 3 by kernel_rfl).symm.trans hf) |>.symm
      obtain rfl : fn = Tryd.f3 := (Option.some.inj (Tryd.func3.symm.trans hfn)).symm
      exact ⟨by kernel_rfl, fun j t ht => by
        rw [Tryd.params3] at ht
        have hm : t ∈ [22, 9, 5] := by simpa using Array.mem_of_getElem? ht
        have hall : ([22, 9, 5].all fun u => !Tryd.prog.wantsStandIn u) = true := by kernel_rfl
        exact (show Tryd.prog.wantsStandIn t = false by simpa using List.all_eq_true.1 hall t hm)⟩)
    (by kernel_rfl)
#print axioms proved_FnListsIndents
end Go.Proofs.YtccbjmmggolhnaaDoor
