/- Walk of the list's zzEscape: what it makes of a text. Condition: the text is not longer than the bound that is named. -/
import Derived.Test.YtdkpacgbniclhaaDoorLSearch
import Derived.Test.YtdkpacgbniclhaaDoorUtf
namespace Go.Proofs.YtdkpacgbniclhaaDoor
open Go.RowKit

def escB (b : UInt8) : List UInt8 := if b = 60 then [38, 108, 116, 59] else if b = 62 then [38, 103, 116, 59] else if b = 38 then [38, 97, 109, 112, 59] else if b = 39 then [38, 35, 51, 57, 59] else if b = 34 then [38, 35, 51, 52, 59] else [b]
def escH (l : List UInt8) : List UInt8 := l.flatMap escB
theorem escB_len (b : UInt8) : (escB b).length ≤ 5 := by
  unfold escB
  repeat' split
  all_goals simp
theorem escH_len (l : List UInt8) : (escH l).length ≤ 5 * l.length := by
  induction l with
  | nil => simp [escH]
  | cons b l ih =>
    have := escB_len b
    simp only [escH, List.flatMap_cons, List.length_append, List.length_cons] at *
    omega
theorem escH_step {l : List UInt8} {k : Nat} {b : UInt8} (h : l[k]? = some b) : escH (l.take (k + 1)) = escH (l.take k) ++ escB b := by
  rw [take_step h]; simp [escH]

end Go.Proofs.YtdkpacgbniclhaaDoor
