/- The given statement on FnListsOther: the card, from the row and the given tie. For every input at which the listed tables read as the text lays them. -/
import Derived.SevenTiedAt
import Derived.Test.YtdkpacgbniclhaaDoorCards
import Derived.Test.YtdkpacgbniclhaaDoorTie
import Derived.Test.YtdkpacgbniclhaaDoorListsOtherRow
namespace Go.Proofs.YtdkpacgbniclhaaDoor
open Go
/-- The given statement: the card. -/
theorem proved_FnListsOther : Rows.FnListsOtherCardSaid :=
  Claim7.holds_tied_plain_at .later [] Rows.fnListsOtherCard.laidKinds true Rows.fnListsOtherCard.stood.harness true
    row_FnListsOther (fun _ h => by cases h) (by kernel_rfl) (fun _ h => by cases h) fnListsOther_row_tie rfl ⟨rfl, rfl⟩ (by kernel_rfl) rfl
    (fun f fn hf hfn => by
      obtain rfl : f = 3 := Option.some.inj ((show Tryd.prog.funcNamed "pub-tattersall/laws.FnListsOther" = some 3 by kernel_rfl).symm.trans hf) |>.symm
      obtain rfl : fn = Tryd.f3 := (Option.some.inj (Tryd.func3.symm.trans hfn)).symm
      exact ⟨by kernel_rfl, fun j t ht => by
        rw [Tryd.params3] at ht
        have hm : t ∈ [22, 3, 5] := by simpa using Array.mem_of_getElem? ht
        have hall : ([22, 3, 5].all fun u => !Tryd.prog.wantsStandIn u) = true := by kernel_rfl
        exact (show Tryd.prog.wantsStandIn t = false by simpa using List.all_eq_true.1 hall t hm)⟩)
    (by kernel_rfl)
#print axioms proved_FnListsOther
end Go.Proofs.YtdkpacgbniclhaaDoor
