/- Walks of the printing in one color and in some. Condition: sizes below the bounds that are named. -/
import Derived.Test.YtlhpljmnacadeaaPrint
namespace Go.Proofs.Ytlhpljmnacadeaa
open Go.RowKit

theorem join_empty (xs : List (List UInt8)) : Lib.join xs [] = xs.flatten := by
  cases xs with
  | nil => rfl
  | cons x r =>
    rw [Lib.join_cons]
    simp [Lib.joinTail]

/-- text.Colors.Sprint, text.Color.Sprint: what the texts, one behind the other, look like in the sequence. -/
theorem seqL_len (l : List Int) (h : ∀ c ∈ l, 0 ≤ c ∧ c < 1000) : (seqL l).length ≤ 5 * l.length + 3 := by
  unfold seqL
  split
  · simp
  · have := codes_len l h; simp; omega
theorem seq1L_len (c : Int) (h : 0 ≤ c ∧ c < 1000) : (seq1L c).length ≤ 7 := by
  have := decL_len c.toNat (by omega)
  simp [seq1L, codeL]; omega

set_option maxHeartbeats 1000000 in
theorem sprints_any (v : Value) (l : List Int) (A : Option Addr) (n c : Nat) (ss : List ByteArray) (s : ByteArray) (w : World) (hl : l.length ≤ 100) (hc : ∀ c ∈ l, 0 ≤ c ∧ c < 1000) (hn : n ≤ 140737488355328) (hcat : bl s = (ss.map bl).flatten) (hs : s.size ≤ 1099511627776) (h2 : (esc2 (bl s) (seqL l)).length ≤ 70368744177664) (hr : (escL (bl s) (seqL l)).length ≤ 70368744177664) (hv : OwnInts w 61 v l) (ht : StrsAt w w.heap.size A n c ss) : Calls Try.prog 26 #[v, .slice A n c] w fun e w' => e = .returned (.string ⟨(paintL (bl s) (seqL l)).toArray⟩) ∧ Below w.heap.size w w' := by
  have hjoin : (⟨(Lib.join (ss.map bl) (bl ⟨#[]⟩)).toArray⟩ : ByteArray) = s := by apply bl_ext; rw [bl_mk, hcat]; exact join_empty _
  have hjl : (Lib.join (ss.map bl) (bl ⟨#[]⟩)).length = s.size := by rw [← mk_size, hjoin]
  have hql := seqL_len l hc
  have HC := Lib.hid hc
  have HCAT := Lib.hid hcat
  have HJ := Lib.hid hjoin
  have HJL := Lib.hid hjl
  clear hc hcat hjoin hjl
  obtain ⟨A', c', rfl, _⟩ := hv.rd
  go_enter Try.func26, Try.ntmps26
  go_wp2_with fail
  refine (join_any _ _ _ _ _ _ ht hn (by rw [HJL.out]; omega)).mono ?_
  rintro e w1 ⟨rfl, hb1⟩
  rw [HJ.out]
  have hv1 := hv.below hb1 (Nat.le_refl _)
  have hsz1 := hb1.size
  go_wp2_with fail
  refine (seqs_any _ l _ (by omega) HC.out hv1).mono ?_
  rintro e w2 ⟨rfl, hb2⟩
  go_wp2_with fail
  refine (colorize_any s _ _ hs (by rw [mk_size]; omega) h2 hr).mono ?_
  rintro e w3 ⟨rfl, hb3⟩
  have hb4 := (hb1.trans (hb2.mono hsz1)).trans (hb3.mono (by have := hb2.size; omega))
  rw [paintL_ba]
  go_wp2
  go_ret
  exact ⟨rfl, hb4⟩

set_option maxHeartbeats 1000000 in
theorem sprint_any (x : Int) (A : Option Addr) (n c : Nat) (ss : List ByteArray) (s : ByteArray) (w : World) (hx : 0 ≤ x ∧ x < 1000) (hn : n ≤ 140737488355328) (hcat : bl s = (ss.map bl).flatten) (hs : s.size ≤ 1099511627776) (h2 : (esc2 (bl s) (seq1L x)).length ≤ 70368744177664) (hr : (escL (bl s) (seq1L x)).length ≤ 70368744177664) (ht : StrsAt w w.heap.size A n c ss) :
    Calls Try.prog 30 #[.int .i64 x, .slice A n c] w fun e w' => e = .returned (.string ⟨(paintL (bl s) (seq1L x)).toArray⟩) ∧ Below w.heap.size w w' := by
  have hjoin : (⟨(Lib.join (ss.map bl) (bl ⟨#[]⟩)).toArray⟩ : ByteArray) = s := by apply bl_ext; rw [bl_mk, hcat]; exact join_empty _
  have hjl : (Lib.join (ss.map bl) (bl ⟨#[]⟩)).length = s.size := by rw [← mk_size, hjoin]
  have hql := seq1L_len x hx
  have HX := Lib.hid hx
  have HCAT := Lib.hid hcat
  have HJ := Lib.hid hjoin
  have HJL := Lib.hid hjl
  clear hx hcat hjoin hjl
  go_enter Try.func30, Try.ntmps30
  go_wp2_with fail
  refine (join_any _ _ _ _ _ _ ht hn (by rw [HJL.out]; omega)).mono ?_
  rintro e w1 ⟨rfl, hb1⟩
  rw [HJ.out]
  have hsz1 := hb1.size
  go_wp2_with fail
  refine (seq1_any x _ HX.out.1 HX.out.2).mono ?_
  rintro e w2 ⟨rfl, hb2⟩
  go_wp2_with fail
  refine (colorize_any s _ _ hs (by rw [mk_size]; omega) h2 hr).mono ?_
  rintro e w3 ⟨rfl, hb3⟩
  have hb4 := (hb1.trans (hb2.mono hsz1)).trans (hb3.mono (by have := hb2.size; omega))
  rw [paintL_ba]
  go_wp2
  go_ret
  exact ⟨rfl, hb4⟩

set_option maxHeartbeats 1000000 in
theorem colorsPrint_any (A0 : Option Addr) (n0 c0 : Nat) (l : List Int) (A : Option Addr) (n c : Nat) (ss : List ByteArray) (s : ByteArray) (w : World) (hl : l.length ≤ 100) (hc : ∀ c ∈ l, 0 ≤ c ∧ c < 1000) (hn : n ≤ 140737488355328) (hcat : bl s = (ss.map bl).flatten) (hs : s.size ≤ 1099511627776) (h2 : (esc2 (bl s) (seqL l)).length ≤ 70368744177664) (hr : (escL (bl s) (seqL l)).length ≤ 70368744177664) (hi : IntsAt w w.heap.size A0 n0 c0 l) (ht : StrsAt w w.heap.size A n c ss) :
    Calls Try.prog 11 #[.slice A0 n0 c0, .slice A n c] w fun e w' => e = .returned (.string ⟨(paintL (bl s) (seqL l)).toArray⟩) ∧ Below w.heap.size w w' := by
  have hil := hi.len
  have HC := Lib.hid hc
  have HCAT := Lib.hid hcat
  have HIL := Lib.hid hil
  clear hc hcat hil
  go_enter Try.func11, Try.ntmps11
  go_wp2_with fail
  refine (colorsOf_any _ _ _ l _ (by rw [← HIL.out]; omega) hi).mono ?_
  rintro e w1 ⟨v, rfl, hv, hb1⟩
  go_wp2_with fail
  refine (sprints_any v l _ _ _ ss s _ hl HC.out hn HCAT.out hs h2 hr hv ((ht.below hb1).more hb1.size)).mono ?_
  rintro e w2 ⟨rfl, hb2⟩
  have hb3 := hb1.trans (hb2.mono hb1.size)
  go_wp2
  go_ret
  exact ⟨rfl, hb3⟩

set_option maxHeartbeats 1000000 in
theorem colorPrint_any (x : Int) (A : Option Addr) (n c : Nat) (ss : List ByteArray) (s : ByteArray) (w : World) (hx : 0 ≤ x ∧ x < 1000) (hn : n ≤ 140737488355328) (hcat : bl s = (ss.map bl).flatten) (hs : s.size ≤ 1099511627776) (h2 : (esc2 (bl s) (seq1L x)).length ≤ 70368744177664) (hr : (escL (bl s) (seq1L x)).length ≤ 70368744177664) (ht : StrsAt w w.heap.size A n c ss) :
    Calls Try.prog 17 #[.int .i64 x, .slice A n c] w fun e w' => e = .returned (.string ⟨(paintL (bl s) (seq1L x)).toArray⟩) ∧ Below w.heap.size w w' := by
  have HCAT := Lib.hid hcat
  clear hcat
  go_enter Try.func17, Try.ntmps17
  go_wp2_with fail
  refine (sprint_any x _ _ _ ss s _ hx hn HCAT.out hs h2 hr ht).mono ?_
  rintro e w2 ⟨rfl, hb2⟩
  go_wp2
  go_ret
  exact ⟨rfl, hb2⟩
end Go.Proofs.Ytlhpljmnacadeaa
