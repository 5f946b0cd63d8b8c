/- Walk of the decimal digits of any number of 64 bits. No condition. -/
import Derived.Test.YtlclmpiocbkabaaGreatDoorItoa
import Derived.Test.YtlclmpiocbkabaaGreatDoorEscape
import Derived.Test.YtlclmpiocbkabaaGreatDoorUtf
namespace Go.Proofs.YtlclmpiocbkabaaGreatDoor
open Go.RowKit
set_option linter.unusedVariables false
set_option linter.unusedSimpArgs false

/-- How far the digits have come. -/
def Far (n m k : Nat) : Prop := m * 10 ^ (64 - k) ≤ n ∧ n < 18446744073709551616
theorem Far.start {n : Nat} (h : n < 18446744073709551616) : Far n n 64 := ⟨by simp, h⟩
theorem Far.room {n m k : Nat} (h : Far n m k) (hm : 0 < m) (hk : k ≤ 64) : 45 ≤ k := by
  rcases Nat.lt_or_ge k 45 with hlt | hge
  · exfalso
    have h1 : 10 ^ 20 ≤ 10 ^ (64 - k) := Nat.pow_le_pow_right (by omega) (by omega)
    have h2 : 1 * 10 ^ (64 - k) ≤ m * 10 ^ (64 - k) := Nat.mul_le_mul_right _ hm
    have h3 := h.1
    have h4 := h.2
    have h5 : (10 : Nat) ^ 20 = 100000000000000000000 := by decide
    omega
  · exact hge
theorem Far.step {n m k : Nat} (h : Far n m k) (hk : 1 ≤ k) (hk2 : k ≤ 64) : Far n (m / 10) (k - 1) := by
  refine ⟨?_, h.2⟩
  have e : 64 - (k - 1) = (64 - k) + 1 := by omega
  rw [e, Nat.pow_succ]
  have h1 : m / 10 * (10 ^ (64 - k) * 10) = (m / 10 * 10) * 10 ^ (64 - k) := by rw [Nat.mul_comm (10 ^ (64 - k)) 10, ← Nat.mul_assoc]
  rw [h1]
  exact Nat.le_trans (Nat.mul_le_mul_right _ (Nat.div_mul_le_self m 10)) h.1
theorem Far.lt {n m k : Nat} (h : Far n m k) : m < 18446744073709551616 := by
  have h1 : m * 1 ≤ m * 10 ^ (64 - k) := Nat.mul_le_mul_left _ (Nat.pow_pos (by omega))
  have := h.1
  have := h.2
  omega
theorem u64_rem10 {m : Nat} (h : m < 18446744073709551616) : IntKind.u64.wrap ((m : Int) % 10) = ((m % 10 : Nat) : Int) := by
  rw [show (m : Int) % 10 = ((m % 10 : Nat) : Int) from by omega]
  exact IntWalk.u64_in _ ⟨by omega, by omega⟩
theorem u64_quo10 {m : Nat} (h : m < 18446744073709551616) : IntKind.u64.wrap ((m : Int) / 10) = ((m / 10 : Nat) : Int) := by
  rw [show (m : Int) / 10 = ((m / 10 : Nat) : Int) from by omega]
  exact IntWalk.u64_in _ ⟨by omega, by omega⟩

set_option maxRecDepth 100000 in
set_option maxHeartbeats 2000000 in
theorem fmtW_any (n : Nat) (w : World) (hn : n < 18446744073709551616) :
    Calls Tryz.prog 71 #[.int .u64 n, .int .i64 10] w fun e w' => e = .returned (.string ⟨(decL n).toArray⟩) ∧ Below w.heap.size w w' := by
  have HF := Lib.hid (Far.start hn)
  clear hn
  go_enter Tryz.func71, Tryz.ntmps71
  go_wp2
  go_loopw [0, 6] (fun v0 v6 wr => ∃ (m : Nat) (k : Nat) (cs : Array Value) (ds : List UInt8), v0 = .int .u64 m ∧ v6 = .int .i64 k ∧ Hid (ds.length = 64 - k) ∧ k ≤ 64 ∧ 44 ≤ k ∧ Hid (Far n m k) ∧ wr.heap[w.heap.size]? = some (.cells cs 125 (0, 0)) ∧ Hid (cs.size = 64 ∧ cs.toList.drop k = Lib.byteCells ds) ∧ Below w.heap.size w wr ∧ DecRel n m ds) (fun _ v6 _ => (intOf v6).toNat)
  case atStart => exact ⟨n, 64, _, [], rfl, rfl, rfl, by omega, by omega, HF, heap_alloc_new w _, ⟨rfl, rfl⟩, (Below.refl _ w).alloc (Nat.le_refl _) _, Or.inl ⟨rfl, rfl⟩⟩
  case round =>
    obtain ⟨m, k, cs, ds, rfl, rfl, HL, hk1, hk2, HF, hh, HC, hb, hrel⟩ := hrel
    have hd10 : m % 10 < 10 := Nat.mod_lt _ (by omega)
    have HR := Lib.hid hrel
    obtain ⟨d, hdd⟩ : ∃ d, d = m % 10 := ⟨_, rfl⟩
    obtain ⟨q, hqq⟩ : ∃ q, q = m / 10 := ⟨_, rfl⟩
    have hR : IntKind.u64.wrap ((m : Int) % 10) = (d : Int) := by rw [hdd]; exact u64_rem10 HF.out.lt
    have hQ : IntKind.u64.wrap ((m : Int) / 10) = (q : Int) := by rw [hqq]; exact u64_quo10 HF.out.lt
    have HQ := Lib.hid hqq
    clear hdd hqq
    have hfz : wr.frozen? ⟨w.heap.size, k - 1, none⟩ = false := by simp [World.frozen?, hh]
    have hcell : ∃ u, wr.cell? ⟨w.heap.size, k - 1, none⟩ = some u := ⟨cs[k - 1]'(by have := HC.out.1; omega), by rw [cell_of_row wr _ _ cs _ (0, 0) hh]; exact Array.getElem?_eq_getElem _⟩
    obtain ⟨u, hu⟩ := hcell
    have HH := Lib.hid hh
    clear hrel hh
    by_cases h64 : k = 64
    · subst h64
      go_wp2
      go_roundw
      case rel =>
        refine ⟨q, 63, _, UInt8.ofNat (48 + m % 10) :: ds, rfl, rfl, ?_, by omega, by omega, Lib.hid (by rw [HQ.out]; exact HF.out.step (by omega) (by omega)), blk_set HH.out 63 _, ?_, hb.setCell (Nat.le_refl _) _, by rw [HQ.out]; exact HR.out.step (Or.inl (List.eq_nil_of_length_eq_zero (by have := HL.out; omega)))⟩
        · show _ = _
          have := HL.out; simp at this ⊢; omega
        · refine ⟨by simp [HC.out.1], ?_⟩
          have h := cells_drop (cs := cs) (k := 64) (v := .int .u8 ((UInt8.ofNat (48 + m % 10)).toNat)) (by omega) (by have := HC.out.1; omega)
          rw [HC.out.2] at h
          have e := lit_val (j := m % 10) (by show _ < 36; omega) hd10
          rw [← e] at h
          exact h.trans (by rw [e]; rfl)
      case measure => simp [intOf]
    · have hk : ((k : Int) == 64) = false := by rw [beq_eq_false_iff_ne]; omega
      have hne : ds ≠ [] := by intro e; have := HL.out; rw [e] at this; simp at this; omega
      have HNE := Lib.hid hne
      have hk64 : k < 64 := by omega
      clear h64 hne
      by_cases hm : 0 < m
      · have hk61 : 45 ≤ k := HF.out.room hm hk1
        go_wp2
        go_roundw
        case rel =>
          refine ⟨q, k - 1, _, UInt8.ofNat (48 + m % 10) :: ds, rfl, by go_num, ?_, by omega, by omega, Lib.hid (by rw [HQ.out]; exact HF.out.step (by omega) (by omega)), blk_set HH.out (k - 1) _, ?_, hb.setCell (Nat.le_refl _) _, by rw [HQ.out]; exact HR.out.step (Or.inr hm)⟩
          · show _ = _
            have := HL.out; simp; omega
          · refine ⟨by simp [HC.out.1], ?_⟩
            have h := cells_drop (cs := cs) (k := k) (v := .int .u8 ((UInt8.ofNat (48 + m % 10)).toNat)) (by omega) (by have := HC.out.1; omega)
            rw [HC.out.2] at h
            have e := lit_val (j := m % 10) (by show _ < 36; omega) hd10
            rw [← e] at h
            exact h.trans (by rw [e]; rfl)
        case measure => simp [intOf]; omega
      · have hm0 : m = 0 := by omega
        subst hm0
        have hdec : decL n = ds := by
          rcases HR.out with ⟨h1, _⟩ | ⟨_, ⟨_, h2⟩ | ⟨h2, _⟩⟩
          · exact absurd h1 HNE.out
          · exact h2
          · omega
        have hcells : ∀ i, i < 64 - k → wr.cell? ⟨w.heap.size, k + i, none⟩ = some (.int .u8 ((ds.map fun b => (b.toNat : Int)).getD i 0)) := by
          intro i hi
          rw [cell_of_row wr _ _ cs _ (0, 0) HH.out, ← Array.getElem?_toList]
          have h := HC.out.2
          have h2 : (cs.toList.drop k)[i]? = cs.toList[k + i]? := List.getElem?_drop
          rw [← h2, h]
          have hl := HL.out
          have hi2 : i < ds.length := by omega
          simp [Lib.byteCells, List.getElem?_map, List.getElem?_eq_getElem hi2, List.getD]
        have hcv := run_convert_bytes_arg (P := Tryz.prog) wr 50 5 Tryz.underlying50 Tryz.underlying5 w.heap.size k (64 - k) (64 - k) (ds.map fun b => (b.toNat : Int)) (by rw [List.length_map]; exact HL.out) hcells 9 Tryz.underlying9
        have hsl : (Instr.sliceAt 125 (.pointer (some ⟨w.heap.size, 0, none⟩)) (some (.int .i64 k)) none none).run Tryz.prog wr = .ok (.slice (some ⟨w.heap.size, k, none⟩) (64 - k) (64 - k)) wr := by
          have hln : Tryz.prog.arrayLen 125 = 64 := by kernel_rfl
          have hel : Tryz.prog.elem 125 = 5 := by kernel_rfl
          rw [run_sliceAt_array_l wr 125 ⟨w.heap.size, 0, none⟩ (by rw [hln, hel]; exact Tryz.underlying125) .i64 k (by omega) (by rw [hln]; omega)]
          rw [hel, Tryz.sizeOf5 wr]
          simp only [Result.andThen, slicedAt, hln, Int.toNat_natCast]
          rw [if_neg (by omega)]
          have : (⟨w.heap.size, 0, none⟩ : Addr).add (k * 1) = ⟨w.heap.size, k, none⟩ := by unfold Addr.add; rw [if_neg (by omega)]; simp
          rw [this]
        have HD := Lib.hid hdec
        clear hcells hdec hfz hu
        go_wp2
        go_ret
        exact ⟨ret_str (by rw [HD.out]; apply bl_ext; rw [bl, strOfNums_data, List.map_map]; conv => rhs; rw [bl_mk, ← List.map_id ds]
                           apply List.map_congr_left; intro b _; simp), hb⟩

theorem decL_le : ∀ (k n : Nat), n < 10 ^ (k + 1) → (decL n).length ≤ k + 1
  | 0, n, h => by
    rw [decL_small (by simpa using h)]
    exact Nat.le_refl _
  | k + 1, n, h => by
    by_cases h10 : n < 10
    · rw [decL_small h10]; simp
    · rw [decL_big h10, List.length_append]
      have := decL_le k (n / 10) (Nat.div_lt_of_lt_mul (by rw [Nat.mul_comm, ← Nat.pow_succ]; exact h))
      simp only [List.length_cons, List.length_nil]
      omega
theorem dec64 {n : Nat} (h : n < 18446744073709551616) : (decL n).length ≤ 20 := decL_le 19 n (by have : (10 : Nat) ^ (19 + 1) = 100000000000000000000 := by decide
                                                                                                  omega)
/-- A number of 64 bits, as the program writes it. -/
def itoaB (x : Int) : ByteArray := ⟨(if x < 0 then 45 :: decL (-x).toNat else decL x.toNat).toArray⟩
def In64 (x : Int) : Prop := -9223372036854775808 ≤ x ∧ x ≤ 9223372036854775807
instance (x : Int) : Decidable (In64 x) := by unfold In64; exact inferInstance
theorem itoa_size {x : Int} (h : In64 x) : (itoaB x).size ≤ 21 := by
  unfold itoaB
  rw [mk_size]
  unfold In64 at h
  split
  · have := dec64 (n := (-x).toNat) (by omega)
    simp only [List.length_cons]
    omega
  · have := dec64 (n := x.toNat) (by omega)
    omega
theorem u64_neg {x : Int} {n : Nat} (h : In64 x) (hx : x < 0) (hn : (n : Int) = -x) : IntKind.u64.wrap (-IntKind.u64.wrap x) = (n : Int) := by
  unfold In64 at h
  unfold IntKind.wrap
  simp only [IntKind.bits, IntKind.signed, Bool.false_and, Bool.false_eq_true, if_false]
  omega
theorem u64_pos {x : Int} {n : Nat} (h : In64 x) (hx : ¬ x < 0) (hn : (n : Int) = x) : IntKind.u64.wrap x = (n : Int) := by
  unfold In64 at h
  rw [hn]
  exact IntWalk.u64_in _ ⟨by omega, by omega⟩

set_option maxRecDepth 100000 in
set_option maxHeartbeats 2000000 in
theorem fmtIW_any (x : Int) (w : World) (h : In64 x) :
    Calls Tryz.prog 55 #[.int .i64 x, .int .i64 10] w fun e w' => e = .returned (.string (itoaB x)) ∧ Below w.heap.size w w' := by
  by_cases hx : x < 0
  · obtain ⟨n, hn⟩ : ∃ n : Nat, (n : Int) = -x := ⟨(-x).toNat, by omega⟩
    have hA := u64_neg h hx hn
    have hn64 : n < 18446744073709551616 := by unfold In64 at h; omega
    have hz := dec64 hn64
    have HB := Lib.hid (show itoaB x = ⟨#[45]⟩ ++ ⟨(decL n).toArray⟩ by
      unfold itoaB
      rw [if_pos hx, show (-x).toNat = n by omega]
      apply bl_ext
      rw [bl_app, bl_mk, bl_mk]; rfl)
    have HN := Lib.hid hn64
    have hsz : (⟨(decL n).toArray⟩ : ByteArray).size ≤ 20 := by rw [mk_size]; exact hz
    clear h hn64 hn hz
    go_enter Tryz.func55, Tryz.ntmps55
    go_wp2_with fail
    refine (fmtW_any n _ HN.out).mono ?_
    rintro e w' ⟨rfl, hb⟩
    generalize (⟨(decL n).toArray⟩ : ByteArray) = t at *
    have hns : ¬ 9223372036854775807 < 1 + t.size := by omega
    go_wp2
    go_ret
    exact ⟨ret_str HB.out.symm, hb⟩
  · obtain ⟨n, hn⟩ : ∃ n : Nat, (n : Int) = x := ⟨x.toNat, by omega⟩
    have hA := u64_pos h hx hn
    have hn64 : n < 18446744073709551616 := by unfold In64 at h; omega
    have HB := Lib.hid (show itoaB x = ⟨(decL n).toArray⟩ by
      unfold itoaB
      rw [if_neg hx, show x.toNat = n by omega])
    have HN := Lib.hid hn64
    clear h hn64 hn
    go_enter Tryz.func55, Tryz.ntmps55
    go_wp2_with fail
    refine (fmtW_any n _ HN.out).mono ?_
    rintro e w' ⟨rfl, hb⟩
    go_wp2
    go_ret
    exact ⟨ret_str HB.out.symm, hb⟩
set_option maxRecDepth 100000 in
theorem itoaW_any (x : Int) (w : World) (h : In64 x) :
    Calls Tryz.prog 43 #[.int .i64 x] w fun e w' => e = .returned (.string (itoaB x)) ∧ Below w.heap.size w w' := by
  have HX := Lib.hid h
  clear h
  go_enter Tryz.func43, Tryz.ntmps43
  go_wp2_with fail
  refine (fmtIW_any x _ HX.out).mono ?_
  rintro e w' ⟨rfl, hb⟩
  go_wp2
  go_ret
  exact ⟨rfl, hb⟩
end Go.Proofs.YtlclmpiocbkabaaGreatDoor
