/- Walk of laws.ptIs: it answers true. Condition: the text reads as the cells that it is held against. -/
import Derived.Test.YtlclmpiocbkabaaDoorRead
namespace Go.Proofs.YtlclmpiocbkabaaDoor
open Go.RowKit

set_option maxHeartbeats 1000000 in
theorem ptsame_any (A1 A2 : Option Addr) (n1 c1 n2 c2 : Nat) (l1 l2 : List (Int × List Int)) (w : World) (B : Nat) (h1 : CellsAt w B A1 n1 c1 l1) (h2 : CellsAt w B A2 n2 c2 l2) :
    Calls Tryd.prog 24 #[.slice A1 n1 c1, .slice A2 n2 c2] w fun e w' => e = .returned (.bool (sameB l1 l2)) ∧ Below w.heap.size w w' := by
  go_enter Tryd.func24, Tryd.ntmps24
  go_wp2_with fail
  refine (same_any _ _ _ _ _ _ l1 l2 _ B h1 h2).mono ?_
  rintro e w1 ⟨rfl, hb1⟩
  go_wp2
  go_ret
  exact ⟨rfl, hb1⟩

set_option maxRecDepth 100000 in
set_option maxHeartbeats 2000000 in
theorem is_true (s : ByteArray) (A1 A2 : Option Addr) (n1 c1 n2 c2 : Nat) (cells got : List (Int × List Int)) (on now : List Int) (w : World) (hs : s.size ≤ 65536) (h1 : CellsAt w w.heap.size A1 n1 c1 cells) (h2 : IntsAt w w.heap.size A2 n2 c2 on)
    (hr : readText s = some (got, now)) (hsame : sameB got cells = true) (hal : alikeB now on = true) :
    Calls Tryd.prog 10 #[.string s, .slice A1 n1 c1, .slice A2 n2 c2] w fun e w' => e = .returned (.bool true) ∧ Below w.heap.size w w' := by
  have HR := Lib.hid hr
  have HS := Lib.hid hsame
  have HA := Lib.hid hal
  clear hr hsame hal
  go_enter Tryd.func10, Tryd.ntmps10
  go_wp2_with fail
  refine (read_any s _ hs).mono ?_
  rintro e w1 ⟨hb1, hp⟩
  rw [HR.out] at hp
  obtain ⟨A, n, c, A', n', c', rfl, hc1, hi1⟩ := hp
  have h1' := (h1.below hb1).more hb1.size
  have h2' := (h2.below hb1).more hb1.size
  clear h1 h2
  go_wp2_with fail
  refine (ptsame_any _ _ _ _ _ _ got cells _ _ hc1 h1').mono ?_
  rintro e w2 ⟨rfl, hb2⟩
  rw [HS.out]
  go_wp2_with fail
  refine (alike_any _ _ _ _ _ _ now on _ _ (hi1.below hb2) (h2'.below hb2)).mono ?_
  rintro e w3 ⟨rfl, rfl⟩
  rw [HA.out]
  have hb3 := hb1.trans (hb2.mono hb1.size)
  go_wp2
  go_ret
  exact ⟨rfl, hb3⟩
end Go.Proofs.YtlclmpiocbkabaaDoor
