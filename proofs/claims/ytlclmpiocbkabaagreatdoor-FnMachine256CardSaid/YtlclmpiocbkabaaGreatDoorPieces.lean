/- Plain words on memory: a slice of pieces of a text (codes, text). -/
import Derived.Test.YtlclmpiocbkabaaGreatDoorFits
import Derived.Test.YtlclmpiocbkabaaGreatDoorSimple
import Derived.Test.YtlclmpiocbkabaaGreatDoorSame
import Derived.Test.YtlclmpiocbkabaaGreatDoorColor
namespace Go.Proofs.YtlclmpiocbkabaaGreatDoor
open Go.RowKit

structure Piece where
  codes : List Int
  text : ByteArray

def PiecesAt (w : World) (B : Nat) (A : Option Addr) (n c : Nat) (l : List Piece) : Prop :=
  ∃ xs, Rd w B 2 A n c xs ∧ l.length = n ∧ ∀ k s, l[k]? = some s → ∃ A' n' c', xs[2 * k]? = some (.slice A' n' c') ∧ xs[2 * k + 1]? = some (.string s.text) ∧ IntsAt w B A' n' c' s.codes

section
variable {w w' : World} {B B' n c k : Nat} {A : Option Addr} {l : List Piece}
theorem PiecesAt.below (h : PiecesAt w B A n c l) (hb : Below B w w') : PiecesAt w' B A n c l := by
  obtain ⟨xs, h1, h2, h3⟩ := h
  refine ⟨xs, h1.below hb, h2, fun k s hk => ?_⟩
  obtain ⟨A', n', c', a, b, d⟩ := h3 k s hk
  exact ⟨A', n', c', a, b, d.below hb⟩
theorem PiecesAt.more (h : PiecesAt w B A n c l) (hB : B ≤ B') : PiecesAt w B' A n c l := by
  obtain ⟨xs, h1, h2, h3⟩ := h
  refine ⟨xs, h1.more hB, h2, fun k s hk => ?_⟩
  obtain ⟨A', n', c', a, b, d⟩ := h3 k s hk
  exact ⟨A', n', c', a, b, d.more hB⟩
theorem PiecesAt.small (h : PiecesAt w B A n c l) : n ≤ 9223372036854775807 := by
  obtain ⟨xs, h1, _⟩ := h
  have := h1.cap; have := h1.small; omega
theorem PiecesAt.len (h : PiecesAt w B A n c l) : l.length = n := by
  obtain ⟨xs, _, h2, _⟩ := h
  exact h2
theorem PiecesAt.at_ (h : PiecesAt w B A n c l) (hk : k < n) :
    ∃ ad s A' n' c', A = some ad ∧ ad.block < B ∧ l[k]? = some s ∧ w.cell? (ad.add (k * 2)) = some (.slice A' n' c') ∧ w.cell? ⟨(ad.add (k * 2)).block, (ad.add (k * 2)).off + 1, none⟩ = some (.string s.text) ∧ IntsAt w B A' n' c' s.codes := by
  obtain ⟨xs, h1, h2, h3⟩ := h
  obtain ⟨ad, e, hb, hc⟩ := h1.cells (by omega)
  obtain ⟨A', n', c', a, b, d⟩ := h3 k l[k] (List.getElem?_eq_getElem (by omega))
  exact ⟨ad, l[k], A', n', c', e, hb, List.getElem?_eq_getElem (by omega), by rw [Nat.mul_comm k 2]; exact hc _ _ a, by rw [← add_step, Nat.mul_comm k 2]; exact hc _ _ b, d⟩
end

def fitPieceB (s : Piece) : Bool := decide (s.codes.length ≤ 2147483647) && decide (s.text.size ≤ 2147483647)
theorem PiecesAt.codes63 {w : World} {B n c : Nat} {A : Option Addr} {cs : List Int} (h : IntsAt w B A n c cs) : n = cs.length ∧ n ≤ 9223372036854775807 := ⟨h.len.symm, by have := Rd.cap h; have := Rd.small h; omega⟩
def fitPiecesB (l : List Piece) : Bool := decide (l.length ≤ 2147483647) && l.all fitPieceB

def filledB (l : List Piece) : Bool := l.all fun s => !s.text.toList.isEmpty
end Go.Proofs.YtlclmpiocbkabaaGreatDoor
