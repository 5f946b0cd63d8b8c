/- Walk of spec.TxRead: what it reads. Condition: the text has at most 65536 bytes. -/
import Derived.Test.YtlclmpiocbkabaaGreatDoorSame
namespace Go.Proofs.YtlclmpiocbkabaaGreatDoor
open Go.RowKit

/-- What stands behind an escape and its bracket, up to the m: what is left, and what is on. -/
def readSeq : List Int → Int → Int → List Int → Option (List Int × List Int)
  | [], _, _, _ => none
  | r :: l, m, d, on =>
    if (decide (48 ≤ r) && decide (r ≤ 57) && decide (d < 3)) = true then readSeq l (10 * m + (r - 48)) (d + 1) on
    else if ((decide (r = 59) || decide (r = 109)) && decide (0 < d)) = true then (if r = 109 then some (l, withC on m) else readSeq l 0 0 (withC on m))
    else none
theorem readSeq_le : ∀ (l : List Int) (m d : Int) (on rest on' : List Int), readSeq l m d on = some (rest, on') → rest.length < l.length
  | [], _, _, _, _, _, h => by simp [readSeq] at h
  | r :: l, m, d, on, rest, on', h => by
    rw [readSeq] at h
    split at h
    · have := readSeq_le l _ _ _ _ _ h; simp; omega
    · split at h
      · split at h
        · simp at h; rw [← h.1]; simp
        · have := readSeq_le l _ _ _ _ _ h; simp; omega
      · cases h

def readAll : List Int → List Int → List (Int × List Int) → Option (List (Int × List Int) × List Int)
  | [], on, cells => some (cells, on)
  | r :: l, on, cells =>
    if r ≠ 27 then readAll l on (cells ++ [(r, on)])
    else match l with
      | [] => none
      | q :: l' => if q ≠ 91 then none else
        match h : readSeq l' 0 0 on with
        | none => none
        | some (rest, on') => have := readSeq_le _ _ _ _ _ _ h; readAll rest on' cells
termination_by l => l.length
decreasing_by all_goals (simp_wf; try omega)

theorem readAll_nil (on : List Int) (cells : List (Int × List Int)) : readAll [] on cells = some (cells, on) := by rw [readAll]
theorem readAll_char {r : Int} (h : r ≠ 27) (l on : List Int) (cells : List (Int × List Int)) : readAll (r :: l) on cells = readAll l on (cells ++ [(r, on)]) := by
  conv => lhs; rw [readAll.eq_def]
  simp only [if_pos h]
theorem readAll_one (on : List Int) (cells : List (Int × List Int)) : readAll [27] on cells = none := by unfold readAll; simp
theorem readAll_bad {q : Int} (h : q ≠ 91) (l on : List Int) (cells : List (Int × List Int)) : readAll (27 :: q :: l) on cells = none := by
  rw [readAll, if_neg (by simp)]; simp only; rw [if_pos h]
theorem readAll_none {l on : List Int} {cells : List (Int × List Int)} (h : readSeq l 0 0 on = none) : readAll (27 :: 91 :: l) on cells = none := by
  rw [readAll, if_neg (by simp)]; simp only; rw [if_neg (by simp)]
  split
  · rfl
  · rename_i h'; rw [h] at h'; cases h'
theorem readAll_some {l on rest on' : List Int} {cells : List (Int × List Int)} (h : readSeq l 0 0 on = some (rest, on')) : readAll (27 :: 91 :: l) on cells = readAll rest on' cells := by
  rw [readAll, if_neg (by simp)]; simp only; rw [if_neg (by simp)]
  split
  · rename_i h'; rw [h] at h'; cases h'
  · rename_i h'; rw [h] at h'; injection h' with h'; injection h' with h1 h2; subst h1; subst h2; rfl
theorem readSeq_digit {r m d : Int} (h1 : 48 ≤ r) (h2 : r ≤ 57) (h3 : d < 3) (l on : List Int) : readSeq (r :: l) m d on = readSeq l (10 * m + (r - 48)) (d + 1) on := by
  rw [readSeq, if_pos (by simp [h1, h2, h3])]
theorem readSeq_semi {m d : Int} (h : 0 < d) (l on : List Int) : readSeq (59 :: l) m d on = readSeq l 0 0 (withC on m) := by
  rw [readSeq, if_neg (by simp), if_pos (by simp [h]), if_neg (by simp)]
theorem readSeq_m {m d : Int} (h : 0 < d) (l on : List Int) : readSeq (109 :: l) m d on = some (l, withC on m) := by
  rw [readSeq, if_neg (by simp), if_pos (by simp [h]), if_pos rfl]
theorem readSeq_bad {r m d : Int} (h1 : ¬ (48 ≤ r ∧ r ≤ 57 ∧ d < 3)) (h2 : ¬ ((r = 59 ∨ r = 109) ∧ 0 < d)) (l on : List Int) : readSeq (r :: l) m d on = none := by
  rw [readSeq, if_neg (by simpa [and_assoc] using h1), if_neg (by simpa using h2)]

def readText (s : ByteArray) : Option (List (Int × List Int) × List Int) := readAll (runes s) [] []

def ReadPost (w : World) (o : Option (List (Int × List Int) × List Int)) (e : Ending) (w' : World) : Prop :=
  Below w.heap.size w w' ∧ match o with
  | none => e = .returned (.tuple #[.slice none 0 0, .slice none 0 0, .bool false])
  | some (cells, on) => ∃ A n c A' n' c', e = .returned (.tuple #[.slice A n c, .slice A' n' c', .bool true]) ∧ CellsAt w' w'.heap.size A n c cells ∧ IntsAt w' w'.heap.size A' n' c' on

def SeqRel (L : List Int) (j0 : Nat) (on0 : List Int) (k : Nat) (m d : Int) (on : List Int) : Bool → Prop
  | false => readSeq (L.drop j0) 0 0 on0 = readSeq (L.drop k) m d on
  | true => readSeq (L.drop j0) 0 0 on0 = some (L.drop k, on)

theorem cellOf {w w1 : World} {g c n : Nat} {L : List Int} {T : TypeId} (h : w1.ownsRow g T 1 (.slice (some ⟨g, 0, none⟩) n c) n (L.map (Value.int .i32))) (hb : Below (g + 1) w1 w) {k : Nat} (hk : k < n) : ∃ x, L[k]? = some x ∧ w.cell? ⟨g, k, none⟩ = some (.int .i32 x) := by
  have hl : L.length = n := by have := h.1; simpa using this
  refine ⟨L[k], List.getElem?_eq_getElem (by omega), ?_⟩
  rw [hb.cell (by simp), World.ownsRow.cellAt h k (by omega), List.getElem?_map, List.getElem?_eq_getElem (by omega)]
  rfl

end Go.Proofs.YtlclmpiocbkabaaGreatDoor
