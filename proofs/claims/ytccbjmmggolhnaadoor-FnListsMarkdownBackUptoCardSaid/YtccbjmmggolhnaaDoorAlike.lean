/- Walks of spec.TxAmong and spec.TxAlike: what they answer. Condition: the slices read as lists of ints. -/
import Derived.Test.YtccbjmmggolhnaaDoorKnown
import Derived.Test.YtccbjmmggolhnaaDoorWords
namespace Go.Proofs.YtccbjmmggolhnaaDoor
open Go.RowKit

def amongB (l : List Int) (x : Int) : Bool := l.any (fun y => y == x)

def alikeB (a b : List Int) : Bool := a.all (amongB b) && b.all (amongB a)

end Go.Proofs.YtccbjmmggolhnaaDoor
