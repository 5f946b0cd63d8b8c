/- Plain words on memory: what a slice that came in reads as, in the words of the walks. -/
import Derived.Test.YtlclmpiocbkabaaDoorKnown
import Derived.Test.YtlclmpiocbkabaaDoorWords
import Derived.SliceStrings
namespace Go.Proofs.YtlclmpiocbkabaaDoor
open Go.RowKit Go.ChangeShapes

theorem block_lt {w : World} {a : Addr} {v : Value} (h : w.cell? a = some v) : a.block < w.heap.size := by
  rcases Nat.lt_or_ge a.block w.heap.size with h1 | h1
  · exact h1
  · have : w.heap[a.block]? = none := Array.getElem?_eq_none h1
    simp [World.cell?, this] at h

theorem ints_in {w : World} {a : Addr} {len cap : Nat} {zs : List Int} (hl : len ≤ cap) (hm : cap ≤ maxLen) (hz : zs.length = cap) (hcell : ∀ i, i < zs.length → w.cell? (a.add i) = some (.int .i64 (zs.getD i 0))) :
    IntsAt w w.heap.size (some a) len cap (zs.take len) := by
  refine ⟨by simp; omega, hl, by unfold maxLen at hm; omega, fun h => ⟨a, rfl, ?_, fun j u hu => ?_⟩⟩
  · have := block_lt (hcell 0 (by omega)); rw [add_block] at this; exact this
  · rw [List.getElem?_map] at hu
    have hj : j < len := by
      rcases Nat.lt_or_ge j len with h1 | h1
      · exact h1
      · rw [List.getElem?_eq_none (by simp; omega)] at hu; cases hu
    rw [hcell j (by omega)]
    rw [List.getElem?_take_of_lt hj, List.getElem?_eq_getElem (by omega)] at hu
    rw [List.getD, List.getElem?_eq_getElem (by omega : j < zs.length)]
    simpa using hu

theorem strs_in {w : World} {a : Addr} {len cap : Nat} {zs : List ByteArray} (hl : len ≤ cap) (hm : cap ≤ maxLen) (hz : zs.length = cap) (hcell : ∀ i, i < zs.length → w.cell? (a.add i) = some (.string (zs.getD i ByteArray.empty))) :
    StrsAt w w.heap.size (some a) len cap (zs.take len) := by
  refine ⟨by simp; omega, hl, by unfold maxLen at hm; omega, fun h => ⟨a, rfl, ?_, fun j u hu => ?_⟩⟩
  · have := block_lt (hcell 0 (by omega)); rw [add_block] at this; exact this
  · rw [List.getElem?_map] at hu
    have hj : j < len := by
      rcases Nat.lt_or_ge j len with h1 | h1
      · exact h1
      · rw [List.getElem?_eq_none (by simp; omega)] at hu; cases hu
    rw [hcell j (by omega)]
    rw [List.getElem?_take_of_lt hj, List.getElem?_eq_getElem (by omega)] at hu
    rw [List.getD, List.getElem?_eq_getElem (by omega : j < zs.length)]
    simpa using hu
end Go.Proofs.YtlclmpiocbkabaaDoor
