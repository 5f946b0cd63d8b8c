/- Walk of spec.TxSimple: what it answers. No condition. -/
import Derived.Test.YtlclmpiocbkabaaGreatDoorKnown
import Derived.Test.YtlclmpiocbkabaaGreatDoorPlain
namespace Go.Proofs.YtlclmpiocbkabaaGreatDoor
open Go.RowKit

def okB (b : Bool) (r : Int) : Bool := knownB r || (b && decide (r = 10))
def simpleB (s : ByteArray) (b : Bool) : Bool := (runes s).all (okB b)

end Go.Proofs.YtlclmpiocbkabaaGreatDoor
