/- The given statement on FnPaintTitleLower: the card, from the row and the given tie. For every input at which the listed tables read as the text lays them. -/
import Derived.SevenTiedAt
import Derived.Test.YtlclmpiocbkabaaDoorCards
import Derived.Test.YtlclmpiocbkabaaDoorTie
import Derived.Test.YtlclmpiocbkabaaDoorPaintTitleLowerRow
namespace Go.Proofs.YtlclmpiocbkabaaDoor
open Go
/-- The given statement: the card. -/
theorem proved_FnPaintTitleLower : Rows.FnPaintTitleLowerCardSaid :=
  Claim7.holds_tied_plain_at .later [] Rows.fnPaintTitleLowerCard.laidKinds true Rows.fnPaintTitleLowerCard.stood.harness true
    row_FnPaintTitleLower (fun _ h => by cases h) (by kernel_rfl) (fun _ h => by cases h) fnPaintTitleLower_row_tie rfl ⟨rfl, rfl⟩ (by kernel_rfl) rfl
    (fun f fn hf hfn => by
      obtain rfl : f = 3 := Option.some.inj ((show Tryd.prog.funcNamed "pub-tattersall/laws.FnPaintTitleLower" = some 3 by kernel_rfl).symm.trans hf) |>.symm
      obtain rfl : fn = Tryd.f3 := (Option.some.inj (Tryd.func3.symm.trans hfn)).symm
      exact ⟨by kernel_rfl, fun j t ht => by
        rw [Tryd.params3] at ht
        have hm : t ∈ [22] := by simpa using Array.mem_of_getElem? ht
        have hall : ([22].all fun u => !Tryd.prog.wantsStandIn u) = true := by kernel_rfl
        exact (show Tryd.prog.wantsStandIn t = false by simpa using List.all_eq_true.1 hall t hm)⟩)
    (by kernel_rfl)
#print axioms proved_FnPaintTitleLower
end Go.Proofs.YtlclmpiocbkabaaDoor
