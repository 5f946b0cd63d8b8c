/- Walks of the numbers of colors as decimal digits. Condition: each number lies from 0 to 999. -/
import Derived.Test.YtlhpljmnacadeaaItoa
import Derived.Test.YtlhpljmnacadeaaBuild
import Derived.Test.YtlhpljmnacadeaaSearch
namespace Go.Proofs.Ytlhpljmnacadeaa
open Go.RowKit

set_option maxHeartbeats 400000 in
theorem fmtI_any (n : Nat) (w : World) (hn : n < 10000) :
    Calls Try.prog 79 #[.int .i64 n, .int .i64 10] w fun e w' => e = .returned (.string ⟨(decL n).toArray⟩) ∧ Below w.heap.size w w' := by
  go_enter Try.func79, Try.ntmps79
  go_wp2_with (go_at_call 89; refine (fmtU_any n _ hn).mono ?_; rintro e w' ⟨rfl, hb⟩)
  go_wp2
  go_ret
  exact ⟨rfl, hb⟩
set_option maxHeartbeats 400000 in
theorem itoa_any (n : Nat) (w : World) (hn : n < 10000) :
    Calls Try.prog 62 #[.int .i64 n] w fun e w' => e = .returned (.string ⟨(decL n).toArray⟩) ∧ Below w.heap.size w w' := by
  go_enter Try.func62, Try.ntmps62
  go_wp2_with (go_at_call 79; refine (fmtI_any n _ hn).mono ?_; rintro e w' ⟨rfl, hb⟩)
  go_wp2
  go_ret
  exact ⟨rfl, hb⟩

/-- What a color's code is written as. -/
def codeL (c : Int) : List UInt8 := decL c.toNat

theorem decL_len (n : Nat) (h : n < 10000) : (decL n).length ≤ 4 := by
  have h1 : ∀ n, n < 10 → (decL n).length = 1 := fun n h => by rw [decL_small h]; rfl
  have h2 : ∀ n, n < 100 → (decL n).length ≤ 2 := fun n h => by
    by_cases a : n < 10
    · rw [h1 n a]; omega
    · rw [decL_big a, List.length_append, h1 _ (by omega)]; simp
  have h3 : ∀ n, n < 1000 → (decL n).length ≤ 3 := fun n h => by
    by_cases a : n < 10
    · rw [h1 n a]; omega
    · rw [decL_big a, List.length_append]; have := h2 (n / 10) (by omega); simp; omega
  by_cases a : n < 10
  · rw [h1 n a]; omega
  · rw [decL_big a, List.length_append]; have := h3 (n / 10) (by omega); simp; omega

set_option maxRecDepth 100000 in
set_option maxHeartbeats 400000 in
theorem code_any (v : Value) (c : Int) (w : World) (h0 : 0 ≤ c) (h1 : c < 1000) : Calls Try.prog 60 #[v, .int .i64 c] w fun e w' => e = .returned (.string ⟨(codeL c).toArray⟩) ∧ Below w.heap.size w w' := by
  obtain ⟨n, rfl⟩ := Int.eq_ofNat_of_zero_le h0
  have hn : n < 10000 := by omega
  go_enter Try.func60, Try.ntmps60
  go_wp2_with (go_at_call 62; refine (itoa_any n _ hn).mono ?_; rintro e w' ⟨rfl, hb⟩)
  go_wp2
  go_ret
  exact ⟨rfl, hb⟩

/-- The sequence of one color (not of 256). -/
def seq1L (c : Int) : List UInt8 := [27, 91] ++ codeL c ++ [109]
set_option maxRecDepth 100000 in
set_option maxHeartbeats 400000 in
theorem seq1_any (c : Int) (w : World) (h0 : 0 ≤ c) (h1 : c < 1000) : Calls Try.prog 49 #[.int .i64 c] w fun e w' => e = .returned (.string ⟨(seq1L c).toArray⟩) ∧ Below w.heap.size w w' := by
  obtain ⟨n, rfl⟩ := Int.eq_ofNat_of_zero_le h0
  have hn : n < 10000 := by omega
  have hl := decL_len n hn
  go_enter Try.func49, Try.ntmps49
  go_wp2_with (go_at_call 62; refine (itoa_any n _ hn).mono ?_; rintro e w' ⟨rfl, hb⟩)
  go_wp2
  go_ret
  exact ⟨rfl, hb⟩

set_option maxHeartbeats 1000000 in
theorem colorsOf_any (A : Option Addr) (n c : Nat) (l : List Int) (w : World) (hn : n ≤ 65536) (h : IntsAt w w.heap.size A n c l) :
    Calls Try.prog 25 #[.slice A n c] w fun e w' => ∃ v, e = .returned v ∧ OwnInts w' 61 v l ∧ Below w.heap.size w w' := by
  obtain ⟨i0, hi, hz0, hz1, hz2⟩ := info_parts (show (Try.prog.info? 61).map (fun i => (i.zero, i.size, i.bytes)) = some (some (.int .i64 0), 1, 8) by kernel_rfl)
  have hlen := h.len
  have HLEN := Lib.hid hlen
  clear hlen
  go_enter Try.func25, Try.ntmps25
  go_wp2
  go_loopw [3, 8] (fun v3 v8 wr => ∃ k : Nat, k ≤ n ∧ v8 = .int .i64 k ∧ wr.ownsRow w.heap.size 61 1 v3 k ((l.take k).map (Value.int .i64)) ∧ Below w.heap.size w wr) (fun _ v8 _ => n - (intOf v8).toNat)
  case atStart => exact ⟨0, Nat.zero_le _, rfl, World.ownsRow_nil _ _ _ _, Below.refl _ _⟩
  case round =>
    obtain ⟨k, hk, rfl, hown, hbw⟩ := hrel
    have hsz := hbw.size
    by_cases hlt : k < n
    · obtain ⟨ad, y, rfl, _, hy, hc⟩ := (h.below hbw).at_ hlt
      have HY := Lib.hid hy
      clear hy
      go_wp2_with (at_builtin; go_loud (refine wpList_append_own _ rfl _ _ 50 rfl w.heap.size 61 i0 (.int .i64 0) 1 8 Try.underlying50 hi hz0 hz1 hz2 rfl (by decide) _ _ _ rfl (hown.alloc _) ⟨wr.heap.size, 0, none⟩ 1 1 [.int .i64 y] rfl rfl ?c1 ?c2 ?c3 ?c4 ?c5 ?_))
      case c1 => exact cell_one_new _ _ _
      case c2 => intro u hu; simp at hu; subst hu; rfl
      case c3 => unfold maxLen; omega
      case c4 => omega
      case c5 => simp; omega
      intro v' w1 hown' hgrow _
      have hb1 : Below w.heap.size w w1 := (hbw.alloc hsz _).grown hgrow (by simp; omega) (fun j hj => (World.ownsRow.lt hown _ hj).1)
      clear hgrow hown hbw
      go_wp2
      go_roundw
      case rel => exact ⟨k + 1, by omega, by go_num, by rw [take_step HY.out, List.map_append, List.map_take]; exact hown', hb1⟩
      case measure => simp [intOf]; omega
    · have hkn : k = n := by omega
      subst hkn
      go_wp2
      go_ret
      have e : l.take k = l := List.take_of_length_le (by rw [HLEN.out]; exact Nat.le_refl _)
      refine ⟨_, rfl, ?_, hbw⟩
      have := own_base hown (Nat.zero_le _)
      rw [e] at this
      unfold OwnInts
      rw [HLEN.out]
      exact this
end Go.Proofs.Ytlhpljmnacadeaa
