/- Walks of the numbers of colors as decimal digits. Condition: each number lies from 0 to 999. -/
import Derived.Test.YtlclmpiocbkabaaDoorItoa
import Derived.Test.YtlclmpiocbkabaaDoorBuild
import Derived.Test.YtlclmpiocbkabaaDoorSearch
namespace Go.Proofs.YtlclmpiocbkabaaDoor
open Go.RowKit

set_option maxHeartbeats 400000 in
theorem fmtI_any (n : Nat) (w : World) (hn : n < 10000) :
    Calls Tryd.prog 71 #[.int .i64 n, .int .i64 10] w fun e w' => e = .returned (.string ⟨(decL n).toArray⟩) ∧ Below w.heap.size w w' := by
  go_enter Tryd.func71, Tryd.ntmps71
  go_wp2_with (go_at_call 94; refine (fmtU_any n _ hn).mono ?_; rintro e w' ⟨rfl, hb⟩)
  go_wp2
  go_ret
  exact ⟨rfl, hb⟩
set_option maxHeartbeats 400000 in
theorem itoa_any (n : Nat) (w : World) (hn : n < 10000) :
    Calls Tryd.prog 50 #[.int .i64 n] w fun e w' => e = .returned (.string ⟨(decL n).toArray⟩) ∧ Below w.heap.size w w' := by
  go_enter Tryd.func50, Tryd.ntmps50
  go_wp2_with (go_at_call 71; refine (fmtI_any n _ hn).mono ?_; rintro e w' ⟨rfl, hb⟩)
  go_wp2
  go_ret
  exact ⟨rfl, hb⟩

/-- What a color's code is written as. -/
def codeL (c : Int) : List UInt8 := decL c.toNat

theorem decL_len (n : Nat) (h : n < 10000) : (decL n).length ≤ 4 := by
  have h1 : ∀ n, n < 10 → (decL n).length = 1 := fun n h => by rw [decL_small h]; rfl
  have h2 : ∀ n, n < 100 → (decL n).length ≤ 2 := fun n h => by
    by_cases a : n < 10
    · rw [h1 n a]; omega
    · rw [decL_big a, List.length_append, h1 _ (by omega)]; simp
  have h3 : ∀ n, n < 1000 → (decL n).length ≤ 3 := fun n h => by
    by_cases a : n < 10
    · rw [h1 n a]; omega
    · rw [decL_big a, List.length_append]; have := h2 (n / 10) (by omega); simp; omega
  by_cases a : n < 10
  · rw [h1 n a]; omega
  · rw [decL_big a, List.length_append]; have := h3 (n / 10) (by omega); simp; omega


/-- The sequence of one color (not of 256). -/
def seq1L (c : Int) : List UInt8 := [27, 91] ++ codeL c ++ [109]
end Go.Proofs.YtlclmpiocbkabaaDoor
