/- The given statement on FnListsLineCount: the card, from the row and the given tie. The second form: where what is read is small, and the listed tables read as the text lays them. -/
import Derived.SevenTiedAt
import Derived.Test.YtccbjmmggolhnaaDoorCards
import Derived.Test.YtccbjmmggolhnaaDoorTie
import Derived.Test.YtccbjmmggolhnaaDoorListsLineCountUptoRow
namespace Go.Proofs.YtccbjmmggolhnaaDoor
open Go
/-- The given statement: the card. -/
theorem proved_FnListsLineCountUpto : Rows.FnListsLineCountUptoCardSaid :=
  Claim7.holds_tied_plain_at .later [] Rows.fnListsLineCountUptoCard.laidKinds true Rows.fnListsLineCountUptoCard.stood.harness true
    row_FnListsLineCountUpto (fun _ h => by cases h) (by kernel_rfl) (fun _ h => by cases h) fnListsLineCountUpto_row_tie rfl ⟨rfl, rfl⟩ (by kernel_rfl) rfl
    (fun f fn hf hfn => by
      obtain rfl : f = 7 := Option.some.inj ((show Tryd.prog.funcNamed "pub-tattersall/laws.FnListsLineCount" = some 7 by kernel_rfl).symm.trans hf) |>.symm
      obtain rfl : fn = Tryd.f7 := (Option.some.inj (Tryd.func7.symm.trans hfn)).symm
      exact ⟨by kernel_rfl, fun j t ht => by
        rw [Tryd.params7] at ht
        have hm : t ∈ [22, 35] := by simpa using Array.mem_of_getElem? ht
        have hall : ([22, 35].all fun u => !Tryd.prog.wantsStandIn u) = true := by kernel_rfl
        exact (show Tryd.prog.wantsStandIn t = false by simpa using List.all_eq_true.1 hall t hm)⟩)
    (by kernel_rfl)
#print axioms proved_FnListsLineCountUpto
end Go.Proofs.YtccbjmmggolhnaaDoor
