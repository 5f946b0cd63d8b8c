/- Walks of spec.TxAmong and spec.TxAlike: what they answer. Condition: the slices read as lists of ints. -/
import Derived.Test.YtlclmpiocbkabaaDoorKnown
import Derived.Test.YtlclmpiocbkabaaDoorWords
namespace Go.Proofs.YtlclmpiocbkabaaDoor
open Go.RowKit

def amongB (l : List Int) (x : Int) : Bool := l.any (fun y => y == x)

set_option maxHeartbeats 400000 in
theorem among_any (A : Option Addr) (n c : Nat) (l : List Int) (x : Int) (w : World) (B : Nat) (h : IntsAt w B A n c l) :
    Calls Tryd.prog 33 #[.slice A n c, .int .i64 x] w fun e w' => e = .returned (.bool (amongB l x)) ∧ w = w' := by
  have hm : n ≤ 9223372036854775807 := by have := Rd.cap h; have := Rd.small h; omega
  go_enter Tryd.func33, Tryd.ntmps33
  go_wp2
  go_loop [9] (fun i => ∃ k : Nat, k ≤ n ∧ i = .int .i64 k ∧ amongB l x = amongB (l.drop k) x) (fun i => n - (intOf i).toNat)
  case atStart => exact ⟨0, Nat.zero_le _, rfl, rfl⟩
  case round =>
    obtain ⟨k, hk, rfl, hr⟩ := hrel
    have HR := Lib.hid hr
    clear hr
    by_cases hlt : k < n
    · obtain ⟨ad, y, rfl, _, hy, hc⟩ := h.at_ hlt
      have HY := Lib.hid hy
      clear hy
      by_cases he : (y == x) = true
      · go_wp2
        go_ret
        exact ⟨ret_bool (by rw [HR.out, drop_step HY.out]; simp [amongB]; simp at he; simp [he]), rfl⟩
      · have he' : (y == x) = false := by simpa using he
        clear he
        go_wp2
        go_round
        case rel => exact ⟨k + 1, by omega, by go_num, by rw [HR.out, drop_step HY.out]; simp [amongB]; simp at he'; simp [he']⟩
        case measure => simp [intOf]; omega
    · go_wp2
      go_ret
      exact ⟨ret_bool (by rw [HR.out, List.drop_of_length_le (by have := h.len; omega)]; rfl), rfl⟩

def alikeB (a b : List Int) : Bool := a.all (amongB b) && b.all (amongB a)

set_option maxHeartbeats 1000000 in
theorem alike_any (A1 A2 : Option Addr) (n1 c1 n2 c2 : Nat) (l1 l2 : List Int) (w : World) (B : Nat) (h1 : IntsAt w B A1 n1 c1 l1) (h2 : IntsAt w B A2 n2 c2 l2) :
    Calls Tryd.prog 15 #[.slice A1 n1 c1, .slice A2 n2 c2] w fun e w' => e = .returned (.bool (alikeB l1 l2)) ∧ w = w' := by
  have hm1 : n1 ≤ 9223372036854775807 := by have := Rd.cap h1; have := Rd.small h1; omega
  have hm2 : n2 ≤ 9223372036854775807 := by have := Rd.cap h2; have := Rd.small h2; omega
  go_enter Tryd.func15, Tryd.ntmps15
  go_wp2
  go_loop [11] (fun i => ∃ k : Nat, k ≤ n1 ∧ i = .int .i64 k ∧ l1.all (amongB l2) = (l1.drop k).all (amongB l2)) (fun i => n1 - (intOf i).toNat)
  case atStart => exact ⟨0, Nat.zero_le _, rfl, rfl⟩
  case round =>
    obtain ⟨k, hk, rfl, hr⟩ := hrel
    have HR := Lib.hid hr
    clear hr
    by_cases hlt : k < n1
    · obtain ⟨ad, y, rfl, _, hy, hc⟩ := h1.at_ hlt
      have HY := Lib.hid hy
      clear hy
      by_cases he : amongB l2 y = true
      · go_wp2_with (go_at_call 33; refine (among_any _ _ _ l2 _ _ _ h2).mono ?_; rintro e w' ⟨rfl, rfl⟩)
        go_round
        case rel => exact ⟨k + 1, by omega, by go_num, by rw [HR.out, drop_step HY.out]; simp [he]⟩
        case measure => simp [intOf]; omega
      · have he' : amongB l2 y = false := by simpa using he
        clear he
        go_wp2_with (go_at_call 33; refine (among_any _ _ _ l2 _ _ _ h2).mono ?_; rintro e w' ⟨rfl, rfl⟩)
        go_ret
        exact ⟨ret_bool (by unfold alikeB; rw [HR.out, drop_step HY.out]; simp [he']), rfl⟩
    · have HA : Hid (l1.all (amongB l2) = true) := by
        have h := HR.out; rw [List.drop_of_length_le (by have := h1.len; omega)] at h; exact h
      go_wp2
      go_loop [22] (fun i => ∃ k : Nat, k ≤ n2 ∧ i = .int .i64 k ∧ l2.all (amongB l1) = (l2.drop k).all (amongB l1)) (fun i => n2 - (intOf i).toNat)
      case atStart => exact ⟨0, Nat.zero_le _, rfl, rfl⟩
      case round =>
        obtain ⟨k, hk, rfl, hr⟩ := hrel
        have HR := Lib.hid hr
        clear hr
        by_cases hlt : k < n2
        · obtain ⟨ad, y, rfl, _, hy, hc⟩ := h2.at_ hlt
          have HY := Lib.hid hy
          clear hy
          by_cases he : amongB l1 y = true
          · go_wp2_with (go_at_call 33; refine (among_any _ _ _ l1 _ _ _ h1).mono ?_; rintro e w' ⟨rfl, rfl⟩)
            go_round
            case rel => exact ⟨k + 1, by omega, by go_num, by rw [HR.out, drop_step HY.out]; simp [he]⟩
            case measure => simp [intOf]; omega
          · have he' : amongB l1 y = false := by simpa using he
            clear he
            go_wp2_with (go_at_call 33; refine (among_any _ _ _ l1 _ _ _ h1).mono ?_; rintro e w' ⟨rfl, rfl⟩)
            go_ret
            exact ⟨ret_bool (by unfold alikeB; rw [HR.out, drop_step HY.out]; simp [he']), rfl⟩
        · go_wp2
          go_ret
          exact ⟨ret_bool (by unfold alikeB; rw [HR.out, HA.out, List.drop_of_length_le (by have := h2.len; omega)]; rfl), rfl⟩
end Go.Proofs.YtlclmpiocbkabaaDoor
