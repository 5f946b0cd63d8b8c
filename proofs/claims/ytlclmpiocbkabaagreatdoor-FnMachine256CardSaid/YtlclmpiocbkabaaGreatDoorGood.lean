/- Walk of spec.TxGood: what it answers. No condition. -/
import Derived.Test.YtlclmpiocbkabaaGreatDoorPieces
namespace Go.Proofs.YtlclmpiocbkabaaGreatDoor
open Go.RowKit

def codeB (n : Nat) (c : Int) : Bool := attrB c || (decide (c = 0) && decide (n ≤ 1))
def goodB (b : Bool) (s : Piece) : Bool := simpleB s.text b && (decide (s.text.size ≤ 500) && (decide (s.codes.length ≤ 4) && s.codes.all (codeB s.codes.length)))
def goodPiecesB (b : Bool) (l : List Piece) : Bool := l.all (goodB b) && decide (l.length ≤ 40)
theorem box_cell2 (w : World) (cs : Array Value) (t : TypeId) (i : Nat) : (w.alloc (.cells cs t)).cell? ⟨w.heap.size, i, none⟩ = cs[i]? := cell_of_row _ _ i cs t (0, 0) (heap_alloc_new w _)

end Go.Proofs.YtlclmpiocbkabaaGreatDoor
