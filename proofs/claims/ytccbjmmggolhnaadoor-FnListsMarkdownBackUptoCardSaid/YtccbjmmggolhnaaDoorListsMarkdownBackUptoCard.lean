/- The given statement on FnListsMarkdownBack: the card, from the row and the given tie. The second form: where what is read is small, and the listed tables read as the text lays them. -/
import Derived.SevenTiedAt
import Derived.Test.YtccbjmmggolhnaaDoorCards
import Derived.Test.YtccbjmmggolhnaaDoorTie
import Derived.Test.YtccbjmmggolhnaaDoorListsMarkdownBackUptoRow
namespace Go.Proofs.YtccbjmmggolhnaaDoor
open Go
/-- The given statement: the card. -/
theorem proved_FnListsMarkdownBackUpto : Rows.FnListsMarkdownBackUptoCardSaid :=
  Claim7.holds_tied_plain_at .later [] Rows.fnListsMarkdownBackUptoCard.laidKinds true Rows.fnListsMarkdownBackUptoCard.stood.harness true
    row_FnListsMarkdownBackUpto (fun _ h => by cases h) (by kernel_rfl) (fun _ h => by cases h) fnListsMarkdownBackUpto_row_tie rfl ⟨rfl, rfl⟩ (by kernel_rfl) rfl
    (fun f fn hf hfn => by
      obtain rfl : f = 6 := Option.some.inj ((show Tryd.prog.funcNamed "pub-tattersall/laws.FnListsMarkdownBack" = some 6 by kernel_rfl).symm.trans hf) |>.symm
      obtain rfl : fn = Tryd.f6 := (Option.some.inj (Tryd.func6.symm.trans hfn)).symm
      exact ⟨by kernel_rfl, fun j t ht => by
        rw [Tryd.params6] at ht
        have hm : t ∈ [22, 35] := by simpa using Array.mem_of_getElem? ht
        have hall : ([22, 35].all fun u => !Tryd.prog.wantsStandIn u) = true := by kernel_rfl
        exact (show Tryd.prog.wantsStandIn t = false by simpa using List.all_eq_true.1 hall t hm)⟩)
    (by kernel_rfl)
#print axioms proved_FnListsMarkdownBackUpto
end Go.Proofs.YtccbjmmggolhnaaDoor
