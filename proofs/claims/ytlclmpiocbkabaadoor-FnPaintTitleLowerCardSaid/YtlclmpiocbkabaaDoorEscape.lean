/- Walk of text.Escape: what it makes of a text and a sequence. Condition: sizes below the bounds that are named. -/
import Derived.Test.YtlclmpiocbkabaaDoorColor
import Derived.Deep.DeepCutAuto
namespace Go.Proofs.YtlclmpiocbkabaaDoor
open Go.RowKit

def RESET : List UInt8 := [27, 91, 48, 109]
def escPre (s q : List UInt8) : List UInt8 := if Lib.hasPrefix s [27, 91] = true then [] else q
def escPost (l : List UInt8) : List UInt8 := if Lib.hasSuffix l RESET = true then [] else RESET
/-- text.Escape: what stands before the last turn. -/
def esc1 (s q : List UInt8) : List UInt8 := escPre s q ++ replL RESET (RESET ++ q) s
def esc2 (s q : List UInt8) : List UInt8 := esc1 s q ++ escPost (esc1 s q)
def escL (s q : List UInt8) : List UInt8 := replL (q ++ RESET) [] (esc2 s q)

theorem mk_size (l : List UInt8) : (ByteArray.mk l.toArray).size = l.length := (bl_size ⟨l.toArray⟩).symm
theorem bl_append (a b : ByteArray) : bl (a ++ b) = bl a ++ bl b := by simp [bl]

end Go.Proofs.YtlclmpiocbkabaaDoor
