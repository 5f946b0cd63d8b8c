/- Walk of laws.zzFits13: whether a slice of strings is of the size that is asked. No condition. -/
import Derived.Test.YtlclmpiocbkabaaDoorKnown
import Derived.Test.YtlclmpiocbkabaaDoorWords
namespace Go.Proofs.YtlclmpiocbkabaaDoor
open Go.RowKit

def fitsB (ss : List ByteArray) : Bool := decide (ss.length ≤ 2147483647) && ss.all (fun s => decide (s.size ≤ 2147483647))
theorem fitsB_long {ss : List ByteArray} (h : ¬ ss.length ≤ 2147483647) : fitsB ss = false := by unfold fitsB; rw [decide_eq_false h]; rfl
theorem fitsB_short {ss : List ByteArray} (h : ss.length ≤ 2147483647) : fitsB ss = ss.all (fun s => decide (s.size ≤ 2147483647)) := by unfold fitsB; rw [decide_eq_true h]; rfl

end Go.Proofs.YtlclmpiocbkabaaDoor
