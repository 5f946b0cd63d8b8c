/- Contracts of the small functions on characters. -/
import Derived.Test.YtlclmpiocbkabaaDoorProg
import Derived.WalkKit
import Derived.Handy
import Derived.WalkLawsBesides
import Derived.WalkSpells
import Derived.BigCall
import Derived.BigQuiet
import Derived.Lib.Hide
import Derived.Lib.OthersKept
import Derived.Lib.RuneCount
namespace Go.Proofs.YtlclmpiocbkabaaDoor
open Go.RowKit

def wideB (r : Int) : Bool := (decide (12353 ≤ r) && decide (r ≤ 12438)) || (decide (12449 ≤ r) && decide (r ≤ 12538)) || (decide (19968 ≤ r) && decide (r ≤ 40869)) || (decide (44032 ≤ r) && decide (r ≤ 55203)) || (decide (65281 ≤ r) && decide (r ≤ 65374))
def boxedB (r : Int) : Bool := decide (9472 ≤ r) && decide (r ≤ 9631)
def knownB (r : Int) : Bool := (decide (32 ≤ r) && decide (r ≤ 126)) || boxedB r || wideB r
def attrB (c : Int) : Bool := (decide (1 ≤ c) && decide (c ≤ 9)) || (decide (30 ≤ c) && decide (c ≤ 37)) || (decide (40 ≤ c) && decide (c ≤ 47)) || (decide (90 ≤ c) && decide (c ≤ 97)) || (decide (100 ≤ c) && decide (c ≤ 107))

theorem ret_bool {a b : Bool} (h : a = b) : Ending.returned (.bool a) = .returned (.bool b) := by rw [h]

theorem ret_int {k : IntKind} {a b : Int} (h : a = b) : Ending.returned (.int k a) = .returned (.int k b) := by rw [h]
theorem ret_str {a b : ByteArray} (h : a = b) : Ending.returned (.string a) = .returned (.string b) := by rw [h]

set_option maxHeartbeats 400000 in
theorem boxed_any (r : Int) (w : World) : Calls Tryd.prog 72 #[.int .i32 r] w fun e w' => e = .returned (.bool (boxedB r)) ∧ w = w' := by
  go_enter Tryd.func72, Tryd.ntmps72
  go_wp2
  all_goals (go_ret; exact ⟨ret_bool (by simp [boxedB]; try omega), rfl⟩)

set_option maxHeartbeats 400000 in
theorem wide_any (r : Int) (w : World) : Calls Tryd.prog 73 #[.int .i32 r] w fun e w' => e = .returned (.bool (wideB r)) ∧ w = w' := by
  go_enter Tryd.func73, Tryd.ntmps73
  go_wp2
  all_goals (go_ret; exact ⟨ret_bool (by rw [Bool.eq_iff_iff]; simp [wideB]; try omega), rfl⟩)

set_option maxHeartbeats 400000 in
theorem attr_any (r : Int) (w : World) : Calls Tryd.prog 36 #[.int .i64 r] w fun e w' => e = .returned (.bool (attrB r)) ∧ w = w' := by
  go_enter Tryd.func36, Tryd.ntmps36
  go_wp2
  all_goals (go_ret; exact ⟨ret_bool (by rw [Bool.eq_iff_iff]; simp [attrB]; try omega), rfl⟩)

set_option maxHeartbeats 400000 in
theorem known_any (r : Int) (w : World) : Calls Tryd.prog 52 #[.int .i32 r] w fun e w' => e = .returned (.bool (knownB r)) ∧ w = w' := by
  go_enter Tryd.func52, Tryd.ntmps52
  go_wp2_with (first | (go_at_call 72; refine (boxed_any _ _).mono ?_; rintro e w' ⟨rfl, rfl⟩) | (go_at_call 73; refine (wide_any _ _).mono ?_; rintro e w' ⟨rfl, rfl⟩))
  all_goals (go_ret; exact ⟨ret_bool (by first | (simp [knownB]; done) | (rw [Bool.eq_iff_iff]; simp [knownB, *]; try omega)), rfl⟩)
end Go.Proofs.YtlclmpiocbkabaaDoor
