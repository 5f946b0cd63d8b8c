/- Walk of spec.TxSameCells and its like: what they answer. Condition: the slices read as lists of cells. -/
import Derived.Test.YtlclmpiocbkabaaDoorCells
import Derived.BigQuiet
namespace Go.Proofs.YtlclmpiocbkabaaDoor
open Go.RowKit

theorem quiet_left {P : Program} {f : FuncId} {args : Array Value} {w : World} {n : Nat} {v : Value}
    (h : Calls P f args (w.drewN n) fun e w' => e = .returned v ∧ w.drewN n = w') : Calls P f args (w.drewN n) fun e w'' => e = .returned v ∧ ∃ m, w'' = w.drewN m :=
  h.mono fun _ _ ⟨he, hm⟩ => ⟨he, n, hm.symm⟩
theorem below_drewN {B : Nat} {a w : World} (h : Below B a w) (n : Nat) : Below B a (w.drewN n) := ⟨h.os, h.tape, h.output, h.size, h.block⟩
theorem below_of_drewN {B : Nat} {a w : World} {n : Nat} (h : Below B (a.drewN n) w) : Below B a w := ⟨h.os, h.tape, h.output, h.size, h.block⟩

theorem quiet_add_left {P : Program} {f : FuncId} {args : Array Value} {w : World} {a n : Nat} {v : Value}
    (h : Calls P f args (w.drewN (a + n)) fun e w' => e = .returned v ∧ w.drewN (a + n) = w') :
    Calls P f args (w.drewN (a + n)) fun e w'' => e = .returned v ∧ ∃ m, w'' = w.drewN (a + m) :=
  h.mono fun _ _ ⟨he, hm⟩ => ⟨he, n, hm.symm⟩
theorem IntsAt.keep' {w w' : World} {B n c : Nat} {A : Option Addr} {l : List Int} (h : IntsAt w B A n c l) (e : w'.heap = w.heap) : IntsAt w' B A n c l :=
  Rd.keep h fun p _ => by simp only [World.cell?, e]

theorem CellsAt.keep' {w w' : World} {B n c : Nat} {A : Option Addr} {l : List (Int × List Int)} (h : CellsAt w B A n c l) (e : w'.heap = w.heap) : CellsAt w' B A n c l := by
  obtain ⟨xs, h1, h2, h3⟩ := h
  refine ⟨xs, Rd.keep h1 fun p _ => by simp only [World.cell?, e], h2, fun k r cs hk => ?_⟩
  obtain ⟨A', n', c', a, b, d⟩ := h3 k r cs hk
  exact ⟨A', n', c', a, b, d.keep' e⟩

def sameB : List (Int × List Int) → List (Int × List Int) → Bool
  | [], [] => true
  | (r, a) :: x, (q, b) :: y => decide (r = q) && alikeB a b && sameB x y
  | _, _ => false
theorem sameB_len : ∀ {x y : List (Int × List Int)}, x.length ≠ y.length → sameB x y = false
  | [], [], h => absurd rfl h
  | [], _ :: _, _ => rfl
  | _ :: _, [], _ => rfl
  | (r, a) :: x, (q, b) :: y, h => by
    simp only [sameB]
    rw [sameB_len (x := x) (y := y) (by simpa using h)]
    simp

set_option maxHeartbeats 1000000 in
theorem same_any (A1 A2 : Option Addr) (n1 c1 n2 c2 : Nat) (l1 l2 : List (Int × List Int)) (w : World) (B : Nat) (h1 : CellsAt w B A1 n1 c1 l1) (h2 : CellsAt w B A2 n2 c2 l2) :
    Calls Tryd.prog 42 #[.slice A1 n1 c1, .slice A2 n2 c2] w fun e w' => e = .returned (.bool (sameB l1 l2)) ∧ Below w.heap.size w w' := by
  have hm1 := h1.small
  have hm2 := h2.small
  by_cases hn : n1 = n2
  · subst hn
    go_enter Tryd.func42, Tryd.ntmps42
    go_wp2
    go_loopw [13] (fun i wr => ∃ k : Nat, k ≤ n1 ∧ i = .int .i64 k ∧ sameB l1 l2 = sameB (l1.drop k) (l2.drop k) ∧ Hid (wr.heap = w.heap) ∧ Below w.heap.size w wr) (fun i _ => n1 - (intOf i).toNat)
    case atStart => exact ⟨0, Nat.zero_le _, rfl, rfl, Lib.hid rfl, Below.refl _ _⟩
    case round =>
      obtain ⟨k, hk, rfl, hr, hheap, hbw⟩ := hrel
      have HR := Lib.hid hr
      clear hr
      by_cases hlt : k < n1
      · obtain ⟨ad, r, cs, A', n', c', rfl, _, hy, hc1, hc2, hi⟩ := (h1.keep' (w' := wr) hheap.out).at_ hlt
        obtain ⟨bd, q, ds, B', m', d', rfl, _, hz, hd1, hd2, hj⟩ := (h2.keep' (w' := wr) hheap.out).at_ hlt
        have HY := Lib.hid hy
        have HZ := Lib.hid hz
        clear hy hz
        have hk1 : (k : Int) < (n1 : Int) := by omega
        by_cases he : (r != q) = true
        · go_wp2
          go_quiet (fail)
          go_wp2
          go_ret
          exact ⟨ret_bool (by rw [HR.out, drop_step HY.out, drop_step HZ.out, sameB]; simp at he; simp [he]), below_drewN hbw _⟩
        · have he' : (r != q) = false := by simpa using he
          clear he
          by_cases ha : alikeB cs ds = true
          · go_wp2
            go_quiet ((go_at_call 15; exact quiet_left (alike_any _ _ _ _ _ _ cs ds _ B (by exact hi.keep' rfl) (by exact hj.keep' rfl))))
            go_wp2
            go_roundw
            case rel => exact ⟨k + 1, by omega, by go_num, by rw [HR.out, drop_step HY.out, drop_step HZ.out, sameB]; simp at he'; simp [he', ha], Lib.hid hheap.out, below_drewN hbw _⟩
            case measure => simp [intOf]; omega
          · have ha' : alikeB cs ds = false := by simpa using ha
            clear ha
            go_wp2
            go_quiet ((go_at_call 15; exact quiet_left (alike_any _ _ _ _ _ _ cs ds _ B (by exact hi.keep' rfl) (by exact hj.keep' rfl))))
            go_wp2
            go_ret
            exact ⟨ret_bool (by rw [HR.out, drop_step HY.out, drop_step HZ.out, sameB]; simp [ha']), below_drewN hbw _⟩
      · go_wp2
        go_ret
        exact ⟨ret_bool (by rw [HR.out, List.drop_of_length_le (by have := h1.len; omega), List.drop_of_length_le (by have := h2.len; omega)]; rfl), hbw⟩
  · have hn' : ((n1 : Int) != n2) = true := by rw [bne_iff_ne]; omega
    have HN := Lib.hid hn
    clear hn
    go_enter Tryd.func42, Tryd.ntmps42
    go_wp2
    go_ret
    exact ⟨ret_bool (by rw [sameB_len]; rw [h1.len, h2.len]; exact HN.out), Below.refl _ _⟩
end Go.Proofs.YtlclmpiocbkabaaDoor
