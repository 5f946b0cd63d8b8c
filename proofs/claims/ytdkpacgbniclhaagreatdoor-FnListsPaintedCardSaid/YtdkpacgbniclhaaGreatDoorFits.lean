/- Walk of laws.zzFits13: whether a slice of strings is of the size that is asked. No condition. -/
import Derived.Test.YtdkpacgbniclhaaGreatDoorKnown
import Derived.Test.YtdkpacgbniclhaaGreatDoorWords
namespace Go.Proofs.YtdkpacgbniclhaaGreatDoor
open Go.RowKit

def fitsB (ss : List ByteArray) : Bool := decide (ss.length ≤ 2147483647) && ss.all (fun s => decide (s.size ≤ 2147483647))
theorem fitsB_long {ss : List ByteArray} (h : ¬ ss.length ≤ 2147483647) : fitsB ss = false := by unfold fitsB; rw [decide_eq_false h]; rfl
theorem fitsB_short {ss : List ByteArray} (h : ss.length ≤ 2147483647) : fitsB ss = ss.all (fun s => decide (s.size ≤ 2147483647)) := by unfold fitsB; rw [decide_eq_true h]; rfl

set_option maxHeartbeats 1000000 in
theorem fits_any (A : Option Addr) (n c : Nat) (ss : List ByteArray) (w : World) (B : Nat) (h : StrsAt w B A n c ss) :
    Calls Tryz.prog 63 #[.slice A n c] w fun e w' => e = .returned (.bool (fitsB ss)) ∧ w = w' := by
  have hm : n ≤ 9223372036854775807 := by have := Rd.cap h; have := Rd.small h; omega
  have hl := Lib.hid h.len
  by_cases h0 : n ≤ 2147483647
  · have HB := Lib.hid (fitsB_short (ss := ss) (by rw [hl.out]; exact h0))
    go_enter Tryz.func63, Tryz.ntmps63
    go_wp2
    go_loop [10] (fun i => ∃ k : Nat, k ≤ n ∧ i = .int .i64 k ∧ ss.all (fun s => decide (s.size ≤ 2147483647)) = (ss.drop k).all (fun s => decide (s.size ≤ 2147483647))) (fun i => n - (intOf i).toNat)
    case atStart => exact ⟨0, Nat.zero_le _, rfl, rfl⟩
    case round =>
      obtain ⟨k, hk, rfl, hr⟩ := hrel
      have HR := Lib.hid hr
      clear hr
      by_cases hlt : k < n
      · obtain ⟨ad, y, rfl, _, hy, hc⟩ := h.at_ hlt
        have HY := Lib.hid hy
        clear hy
        by_cases he : y.size ≤ 2147483647
        · go_wp2
          go_round
          case rel => exact ⟨k + 1, by omega, by go_num, by rw [HR.out, drop_step HY.out, List.all_cons, decide_eq_true he]; rfl⟩
          case measure => simp [intOf]; omega
        · go_wp2
          go_ret
          exact ⟨ret_bool (by rw [HB.out, HR.out, drop_step HY.out, List.all_cons, decide_eq_false he]; rfl), rfl⟩
      · go_wp2
        go_ret
        exact ⟨ret_bool (by rw [HB.out, HR.out, List.drop_of_length_le (by rw [hl.out]; omega)]; rfl), rfl⟩
  · have HB := Lib.hid (fitsB_long (ss := ss) (by rw [hl.out]; exact h0))
    go_enter Tryz.func63, Tryz.ntmps63
    go_wp2
    go_ret
    exact ⟨ret_bool (by rw [HB.out]), rfl⟩
end Go.Proofs.YtdkpacgbniclhaaGreatDoor
