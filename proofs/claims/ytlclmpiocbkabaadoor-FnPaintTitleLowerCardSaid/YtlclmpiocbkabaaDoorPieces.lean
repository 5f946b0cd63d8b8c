/- Plain words on memory: a slice of pieces of a text (codes, text). -/
import Derived.Test.YtlclmpiocbkabaaDoorFits
import Derived.Test.YtlclmpiocbkabaaDoorSimple
import Derived.Test.YtlclmpiocbkabaaDoorSame
import Derived.Test.YtlclmpiocbkabaaDoorColor
namespace Go.Proofs.YtlclmpiocbkabaaDoor
open Go.RowKit

structure Piece where
  codes : List Int
  text : ByteArray

def PiecesAt (w : World) (B : Nat) (A : Option Addr) (n c : Nat) (l : List Piece) : Prop :=
  ∃ xs, Rd w B 2 A n c xs ∧ l.length = n ∧ ∀ k s, l[k]? = some s → ∃ A' n' c', xs[2 * k]? = some (.slice A' n' c') ∧ xs[2 * k + 1]? = some (.string s.text) ∧ IntsAt w B A' n' c' s.codes

section
variable {w w' : World} {B B' n c k : Nat} {A : Option Addr} {l : List Piece}
theorem PiecesAt.below (h : PiecesAt w B A n c l) (hb : Below B w w') : PiecesAt w' B A n c l := by
  obtain ⟨xs, h1, h2, h3⟩ := h
  refine ⟨xs, h1.below hb, h2, fun k s hk => ?_⟩
  obtain ⟨A', n', c', a, b, d⟩ := h3 k s hk
  exact ⟨A', n', c', a, b, d.below hb⟩
theorem PiecesAt.more (h : PiecesAt w B A n c l) (hB : B ≤ B') : PiecesAt w B' A n c l := by
  obtain ⟨xs, h1, h2, h3⟩ := h
  refine ⟨xs, h1.more hB, h2, fun k s hk => ?_⟩
  obtain ⟨A', n', c', a, b, d⟩ := h3 k s hk
  exact ⟨A', n', c', a, b, d.more hB⟩
theorem PiecesAt.small (h : PiecesAt w B A n c l) : n ≤ 9223372036854775807 := by
  obtain ⟨xs, h1, _⟩ := h
  have := h1.cap; have := h1.small; omega
theorem PiecesAt.len (h : PiecesAt w B A n c l) : l.length = n := by
  obtain ⟨xs, _, h2, _⟩ := h
  exact h2
theorem PiecesAt.at_ (h : PiecesAt w B A n c l) (hk : k < n) :
    ∃ ad s A' n' c', A = some ad ∧ ad.block < B ∧ l[k]? = some s ∧ w.cell? (ad.add (k * 2)) = some (.slice A' n' c') ∧ w.cell? ⟨(ad.add (k * 2)).block, (ad.add (k * 2)).off + 1, none⟩ = some (.string s.text) ∧ IntsAt w B A' n' c' s.codes := by
  obtain ⟨xs, h1, h2, h3⟩ := h
  obtain ⟨ad, e, hb, hc⟩ := h1.cells (by omega)
  obtain ⟨A', n', c', a, b, d⟩ := h3 k l[k] (List.getElem?_eq_getElem (by omega))
  exact ⟨ad, l[k], A', n', c', e, hb, List.getElem?_eq_getElem (by omega), by rw [Nat.mul_comm k 2]; exact hc _ _ a, by rw [← add_step, Nat.mul_comm k 2]; exact hc _ _ b, d⟩
end

def fitPieceB (s : Piece) : Bool := decide (s.codes.length ≤ 2147483647) && decide (s.text.size ≤ 2147483647)
set_option maxHeartbeats 1000000 in
theorem fitPiece_any (s : Piece) (A : Option Addr) (n c : Nat) (w : World) (hn : n = s.codes.length) (h63 : n ≤ 9223372036854775807) :
    Calls Tryd.prog 18 #[.agg #[.slice A n c, .string s.text]] w fun e w' => e = .returned (.bool (fitPieceB s)) ∧ Below w.heap.size w w' := by
  obtain ⟨cs, tx⟩ := s
  dsimp only at hn
  have HB := Lib.hid (show fitPieceB ⟨cs, tx⟩ = (decide (n ≤ 2147483647) && decide (tx.size ≤ 2147483647)) by unfold fitPieceB; rw [hn])
  clear hn
  by_cases h1 : n ≤ 2147483647
  · by_cases h2 : tx.size ≤ 2147483647
    · go_enter Tryd.func18, Tryd.ntmps18
      go_wp2
      go_ret
      exact ⟨ret_bool (by rw [HB.out, decide_eq_true h1, decide_eq_true h2]; rfl), (Below.refl _ w).alloc (Nat.le_refl _) _⟩
    · go_enter Tryd.func18, Tryd.ntmps18
      go_wp2
      go_ret
      exact ⟨ret_bool (by rw [HB.out, decide_eq_true h1, decide_eq_false h2]; rfl), (Below.refl _ w).alloc (Nat.le_refl _) _⟩
  · go_enter Tryd.func18, Tryd.ntmps18
    go_wp2
    go_ret
    exact ⟨ret_bool (by rw [HB.out, decide_eq_false h1]; rfl), (Below.refl _ w).alloc (Nat.le_refl _) _⟩

theorem PiecesAt.codes63 {w : World} {B n c : Nat} {A : Option Addr} {cs : List Int} (h : IntsAt w B A n c cs) : n = cs.length ∧ n ≤ 9223372036854775807 := ⟨h.len.symm, by have := Rd.cap h; have := Rd.small h; omega⟩
def fitPiecesB (l : List Piece) : Bool := decide (l.length ≤ 2147483647) && l.all fitPieceB

set_option maxHeartbeats 2000000 in
theorem fitPieces_any (A : Option Addr) (n c : Nat) (l : List Piece) (w : World) (h : PiecesAt w w.heap.size A n c l) :
    Calls Tryd.prog 6 #[.slice A n c] w fun e w' => e = .returned (.bool (fitPiecesB l)) ∧ Below w.heap.size w w' := by
  have hm := h.small
  have HL := Lib.hid h.len
  by_cases h0 : n ≤ 2147483647
  · have HB := Lib.hid (show fitPiecesB l = l.all fitPieceB by unfold fitPiecesB; rw [HL.out, decide_eq_true h0]; rfl)
    go_enter Tryd.func6, Tryd.ntmps6
    go_wp2
    go_loopw [10] (fun i wr => ∃ k : Nat, k ≤ n ∧ i = .int .i64 k ∧ Hid (l.all fitPieceB = (l.drop k).all fitPieceB) ∧ Below w.heap.size w wr) (fun i _ => n - (intOf i).toNat)
    case atStart => exact ⟨0, Nat.zero_le _, rfl, Lib.hid rfl, Below.refl _ _⟩
    case round =>
      obtain ⟨k, hk, rfl, HR, hbw⟩ := hrel
      have hsz := hbw.size
      by_cases hlt : k < n
      · obtain ⟨ad, s, A', n', c', rfl, _, hy, hc0, hc1, hst⟩ := (h.below hbw).at_ hlt
        have hk1 : (k : Int) < (n : Int) := by omega
        have HY := Lib.hid hy
        have hcd := PiecesAt.codes63 hst
        have HCD := Lib.hid hcd
        have hb1 := (Below.refl wr.heap.size wr).alloc (Nat.le_refl _) (.cells #[.slice A' n' c', .string s.text] 47)
        clear hy hst hcd
        go_wp2_with fail
        refine (fitPiece_any s A' n' c' _ HCD.out.1 HCD.out.2).mono ?_
        rintro e w2 ⟨rfl, hb2⟩
        have hbw2 := hbw.trans ((hb1.trans (hb2.mono hb1.size)).mono hsz)
        clear hb1 hb2 hbw
        cases hb : fitPieceB s with
        | true =>
          have HS := Lib.hid hb
          clear hb
          go_wp2
          go_roundw
          case rel => exact ⟨k + 1, by omega, by go_num, Lib.hid (by rw [HR.out, drop_step HY.out, List.all_cons, HS.out]; rfl), hbw2⟩
          case measure => simp [intOf]; omega
        | false =>
          have HS := Lib.hid hb
          clear hb
          go_wp2
          go_ret
          exact ⟨ret_bool (by rw [HB.out, HR.out, drop_step HY.out, List.all_cons, HS.out]; rfl), hbw2⟩
      · go_wp2
        go_ret
        exact ⟨ret_bool (by rw [HB.out, HR.out, List.drop_of_length_le (by rw [HL.out]; omega)]; rfl), hbw⟩
  · have HB := Lib.hid (show fitPiecesB l = false by unfold fitPiecesB; rw [HL.out, decide_eq_false h0]; rfl)
    go_enter Tryd.func6, Tryd.ntmps6
    go_wp2
    go_ret
    exact ⟨ret_bool (by rw [HB.out]), Below.refl _ _⟩

def filledB (l : List Piece) : Bool := l.all fun s => !s.text.toList.isEmpty
end Go.Proofs.YtlclmpiocbkabaaDoor
