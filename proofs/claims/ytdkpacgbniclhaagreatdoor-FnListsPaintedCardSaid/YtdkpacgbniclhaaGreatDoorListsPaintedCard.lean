/- The given statement on FnListsPainted: the card, from the row and the given tie. For every input at which the listed tables read as the text lays them. -/
import Derived.SevenTiedAt
import Derived.Test.YtdkpacgbniclhaaGreatDoorCards
import Derived.Test.YtdkpacgbniclhaaGreatDoorTie
import Derived.Test.YtdkpacgbniclhaaGreatDoorPaintedRow
namespace Go.Proofs.YtdkpacgbniclhaaGreatDoor
open Go
/-- The given statement: the card. -/
theorem proved_FnListsPainted : Rows.FnListsPaintedCardSaid :=
  Claim7.holds_tied_plain_at .later [] Rows.fnListsPaintedCard.laidKinds true Rows.fnListsPaintedCard.stood.harness true
    row_FnListsPainted (fun _ h => by cases h) (by kernel_rfl) (fun _ h => by cases h) fnListsPainted_row_tie rfl ⟨rfl, rfl⟩ (by kernel_rfl) rfl
    (fun f fn hf hfn => by
      obtain rfl : f = 3 := Option.some.inj ((show Tryz.prog.funcNamed "pub-tattersall/laws.FnListsPainted" = some 3 by kernel_rfl).symm.trans hf) |>.symm
      obtain rfl : fn = Tryz.f3 := (Option.some.inj (Tryz.func3.symm.trans hfn)).symm
      exact ⟨by kernel_rfl, fun j t ht => by
        rw [Tryz.params3] at ht
        have hm : t ∈ [22, 24, 3] := by simpa using Array.mem_of_getElem? ht
        have hall : ([22, 24, 3].all fun u => !Tryz.prog.wantsStandIn u) = true := by kernel_rfl
        exact (show Tryz.prog.wantsStandIn t = false by simpa using List.all_eq_true.1 hall t hm)⟩)
    (by kernel_rfl)
#print axioms proved_FnListsPainted
end Go.Proofs.YtdkpacgbniclhaaGreatDoor
