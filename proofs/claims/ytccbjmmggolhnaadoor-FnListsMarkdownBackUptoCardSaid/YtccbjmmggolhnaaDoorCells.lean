/- Walks of spec.PtPainted and its like: the cells that they make. Condition: the text is not longer than the bound that is named. -/
import Derived.Test.YtccbjmmggolhnaaDoorAlike
import Derived.Test.YtccbjmmggolhnaaDoorPlain
import Derived.Deep.QuietTactic
namespace Go.Proofs.YtccbjmmggolhnaaDoor
open Go.RowKit

theorem infoInt : (Tryd.prog.info? 3).map (fun i => (i.zero, i.size, i.bytes)) = some (some (.int .i64 0), 1, 8) := by kernel_rfl

def flatC (v : Value) (rs : List Int) : List Value := rs.flatMap fun r => [.int .i32 r, v]
theorem flatC_snoc (v : Value) (rs : List Int) (r : Int) : flatC v (rs ++ [r]) = flatC v rs ++ [.int .i32 r, v] := by simp [flatC]
theorem flatC_len (v : Value) (rs : List Int) : (flatC v rs).length = rs.length * 2 := by
  induction rs with
  | nil => rfl
  | cons r rs ih => simp only [flatC, List.flatMap_cons] at *; simp [ih]; omega
theorem flatC_at (v : Value) : ∀ (rs : List Int) (k : Nat) (r : Int), rs[k]? = some r → (flatC v rs)[2 * k]? = some (.int .i32 r) ∧ (flatC v rs)[2 * k + 1]? = some v := by
  intro rs
  induction rs with
  | nil => intro k r h; simp at h
  | cons x rs ih =>
    intro k r h
    cases k with
    | zero => simp at h; subst h; simp [flatC]
    | succ k =>
      have := ih k r (by simpa using h)
      simp only [flatC, List.flatMap_cons] at *
      rw [show 2 * (k + 1) = 2 * k + 2 by omega]
      simpa using this

def painted (s : ByteArray) (on : List Int) : List (Int × List Int) := (runes s).map fun r => (r, on)


def withC (l : List Int) (c : Int) : List Int := if c = 0 then [] else if amongB l c then l else l ++ [c]
theorem withC_len (l : List Int) (c : Int) : (withC l c).length ≤ l.length + 1 := by
  unfold withC; split
  · simp
  · split <;> simp

end Go.Proofs.YtccbjmmggolhnaaDoor
