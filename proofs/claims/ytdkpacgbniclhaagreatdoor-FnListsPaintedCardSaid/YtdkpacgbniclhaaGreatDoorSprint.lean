/- Walks of the printing in one color and in some. Condition: sizes below the bounds that are named. -/
import Derived.Test.YtdkpacgbniclhaaGreatDoorPrint
namespace Go.Proofs.YtdkpacgbniclhaaGreatDoor
open Go.RowKit

theorem join_empty (xs : List (List UInt8)) : Lib.join xs [] = xs.flatten := by
  cases xs with
  | nil => rfl
  | cons x r =>
    rw [Lib.join_cons]
    simp [Lib.joinTail]

/-- text.Colors.Sprint, text.Color.Sprint: what the texts, one behind the other, look like in the sequence. -/
theorem seqL_len (l : List Int) (h : ∀ c ∈ l, 0 ≤ c ∧ c < 1000) : (seqL l).length ≤ 5 * l.length + 3 := by
  unfold seqL
  split
  · simp
  · have := codes_len l h; simp; omega
theorem seq1L_len (c : Int) (h : 0 ≤ c ∧ c < 1000) : (seq1L c).length ≤ 7 := by
  have := decL_len c.toNat (by omega)
  simp [seq1L, codeL]; omega


set_option maxHeartbeats 1000000 in
theorem sprint_any (x : Int) (A : Option Addr) (n c : Nat) (ss : List ByteArray) (s : ByteArray) (w : World) (hx : 0 ≤ x ∧ x < 1000) (hn : n ≤ 140737488355328) (hcat : bl s = (ss.map bl).flatten) (hs : s.size ≤ 1099511627776) (h2 : (esc2 (bl s) (seq1L x)).length ≤ 70368744177664) (hr : (escL (bl s) (seq1L x)).length ≤ 70368744177664) (ht : StrsAt w w.heap.size A n c ss) :
    Calls Tryz.prog 40 #[.int .i64 x, .slice A n c] w fun e w' => e = .returned (.string ⟨(paintL (bl s) (seq1L x)).toArray⟩) ∧ Below w.heap.size w w' := by
  have hjoin : (⟨(Lib.join (ss.map bl) (bl ⟨#[]⟩)).toArray⟩ : ByteArray) = s := by apply bl_ext; rw [bl_mk, hcat]; exact join_empty _
  have hjl : (Lib.join (ss.map bl) (bl ⟨#[]⟩)).length = s.size := by rw [← mk_size, hjoin]
  have hql := seq1L_len x hx
  have HX := Lib.hid hx
  have HCAT := Lib.hid hcat
  have HJ := Lib.hid hjoin
  have HJL := Lib.hid hjl
  clear hx hcat hjoin hjl
  go_enter Tryz.func40, Tryz.ntmps40
  go_wp2_with fail
  refine (join_any _ _ _ _ _ _ ht hn (by rw [HJL.out]; omega)).mono ?_
  rintro e w1 ⟨rfl, hb1⟩
  rw [HJ.out]
  have hsz1 := hb1.size
  go_wp2_with fail
  refine (seq1_any x _ HX.out.1 HX.out.2).mono ?_
  rintro e w2 ⟨rfl, hb2⟩
  go_wp2_with fail
  refine (colorize_any s _ _ hs (by rw [mk_size]; omega) h2 hr).mono ?_
  rintro e w3 ⟨rfl, hb3⟩
  have hb4 := (hb1.trans (hb2.mono hsz1)).trans (hb3.mono (by have := hb2.size; omega))
  rw [paintL_ba]
  go_wp2
  go_ret
  exact ⟨rfl, hb4⟩


set_option maxHeartbeats 1000000 in
theorem colorPrint_any (x : Int) (A : Option Addr) (n c : Nat) (ss : List ByteArray) (s : ByteArray) (w : World) (hx : 0 ≤ x ∧ x < 1000) (hn : n ≤ 140737488355328) (hcat : bl s = (ss.map bl).flatten) (hs : s.size ≤ 1099511627776) (h2 : (esc2 (bl s) (seq1L x)).length ≤ 70368744177664) (hr : (escL (bl s) (seq1L x)).length ≤ 70368744177664) (ht : StrsAt w w.heap.size A n c ss) :
    Calls Tryz.prog 17 #[.int .i64 x, .slice A n c] w fun e w' => e = .returned (.string ⟨(paintL (bl s) (seq1L x)).toArray⟩) ∧ Below w.heap.size w w' := by
  have HCAT := Lib.hid hcat
  clear hcat
  go_enter Tryz.func17, Tryz.ntmps17
  go_wp2_with fail
  refine (sprint_any x _ _ _ ss s _ hx hn HCAT.out hs h2 hr ht).mono ?_
  rintro e w2 ⟨rfl, hb2⟩
  go_wp2
  go_ret
  exact ⟨rfl, hb2⟩
end Go.Proofs.YtdkpacgbniclhaaGreatDoor
