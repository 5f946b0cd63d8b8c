/- Walk of spec.TxSameCells and its like: what they answer. Condition: the slices read as lists of cells. -/
import Derived.Test.YtlclmpiocbkabaaGreatDoorCells
import Derived.BigQuiet
namespace Go.Proofs.YtlclmpiocbkabaaGreatDoor
open Go.RowKit

theorem quiet_left {P : Program} {f : FuncId} {args : Array Value} {w : World} {n : Nat} {v : Value}
    (h : Calls P f args (w.drewN n) fun e w' => e = .returned v ∧ w.drewN n = w') : Calls P f args (w.drewN n) fun e w'' => e = .returned v ∧ ∃ m, w'' = w.drewN m :=
  h.mono fun _ _ ⟨he, hm⟩ => ⟨he, n, hm.symm⟩
theorem below_drewN {B : Nat} {a w : World} (h : Below B a w) (n : Nat) : Below B a (w.drewN n) := ⟨h.os, h.tape, h.output, h.size, h.block⟩
theorem below_of_drewN {B : Nat} {a w : World} {n : Nat} (h : Below B (a.drewN n) w) : Below B a w := ⟨h.os, h.tape, h.output, h.size, h.block⟩

theorem quiet_add_left {P : Program} {f : FuncId} {args : Array Value} {w : World} {a n : Nat} {v : Value}
    (h : Calls P f args (w.drewN (a + n)) fun e w' => e = .returned v ∧ w.drewN (a + n) = w') :
    Calls P f args (w.drewN (a + n)) fun e w'' => e = .returned v ∧ ∃ m, w'' = w.drewN (a + m) :=
  h.mono fun _ _ ⟨he, hm⟩ => ⟨he, n, hm.symm⟩
theorem IntsAt.keep' {w w' : World} {B n c : Nat} {A : Option Addr} {l : List Int} (h : IntsAt w B A n c l) (e : w'.heap = w.heap) : IntsAt w' B A n c l :=
  Rd.keep h fun p _ => by simp only [World.cell?, e]

theorem CellsAt.keep' {w w' : World} {B n c : Nat} {A : Option Addr} {l : List (Int × List Int)} (h : CellsAt w B A n c l) (e : w'.heap = w.heap) : CellsAt w' B A n c l := by
  obtain ⟨xs, h1, h2, h3⟩ := h
  refine ⟨xs, Rd.keep h1 fun p _ => by simp only [World.cell?, e], h2, fun k r cs hk => ?_⟩
  obtain ⟨A', n', c', a, b, d⟩ := h3 k r cs hk
  exact ⟨A', n', c', a, b, d.keep' e⟩

def sameB : List (Int × List Int) → List (Int × List Int) → Bool
  | [], [] => true
  | (r, a) :: x, (q, b) :: y => decide (r = q) && alikeB a b && sameB x y
  | _, _ => false
theorem sameB_len : ∀ {x y : List (Int × List Int)}, x.length ≠ y.length → sameB x y = false
  | [], [], h => absurd rfl h
  | [], _ :: _, _ => rfl
  | _ :: _, [], _ => rfl
  | (r, a) :: x, (q, b) :: y, h => by
    simp only [sameB]
    rw [sameB_len (x := x) (y := y) (by simpa using h)]
    simp

end Go.Proofs.YtlclmpiocbkabaaGreatDoor
