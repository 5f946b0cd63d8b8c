/- Walk of the decimal digits of a number. Condition: the number is below 10000. -/
import Derived.Test.YtlclmpiocbkabaaDoorKnown
import Derived.Test.YtlclmpiocbkabaaDoorSplit
import Derived.Laws.Rows
namespace Go.Proofs.YtlclmpiocbkabaaDoor
open Go.RowKit

def decL (n : Nat) : List UInt8 := if n < 10 then [UInt8.ofNat (48 + n)] else decL (n / 10) ++ [UInt8.ofNat (48 + n % 10)]
theorem decL_small {n : Nat} (h : n < 10) : decL n = [UInt8.ofNat (48 + n)] := by rw [decL, if_pos h]
theorem decL_big {n : Nat} (h : ¬ n < 10) : decL n = decL (n / 10) ++ [UInt8.ofNat (48 + n % 10)] := by
  conv => lhs; rw [decL, if_neg h]

def litDigits : ByteArray := ⟨#[48, 49, 50, 51, 52, 53, 54, 55, 56, 57, 97, 98, 99, 100, 101, 102, 103, 104, 105, 106, 107, 108, 109, 110, 111, 112, 113, 114, 115, 116, 117, 118, 119, 120, 121, 122]⟩
theorem lit_at {j : Nat} (h : j < litDigits.size) (hj : j < 10) : litDigits[j] = UInt8.ofNat (48 + j) := by
  have : j = 0 ∨ j = 1 ∨ j = 2 ∨ j = 3 ∨ j = 4 ∨ j = 5 ∨ j = 6 ∨ j = 7 ∨ j = 8 ∨ j = 9 := by omega
  rcases this with rfl | rfl | rfl | rfl | rfl | rfl | rfl | rfl | rfl | rfl <;> rfl

/-- What the digits that are written are of the number: m is left, ds stand. -/
def DecRel (n m : Nat) (ds : List UInt8) : Prop := (ds = [] ∧ m = n) ∨ (ds ≠ [] ∧ ((m = 0 ∧ decL n = ds) ∨ (0 < m ∧ decL n = decL m ++ ds)))
theorem DecRel.step {n m : Nat} {ds : List UInt8} (h : DecRel n m ds) (hm : ds = [] ∨ 0 < m) : DecRel n (m / 10) (UInt8.ofNat (48 + m % 10) :: ds) := by
  refine Or.inr ⟨by simp, ?_⟩
  by_cases h10 : m < 10
  · refine Or.inl ⟨by omega, ?_⟩
    rcases h with ⟨h1, h2⟩ | ⟨h1, ⟨h2, _⟩ | ⟨_, h3⟩⟩
    · subst h1; subst h2; rw [decL_small h10, Nat.mod_eq_of_lt h10]
    · rcases hm with hm | hm
      · exact absurd hm h1
      · omega
    · rw [h3, decL_small h10, Nat.mod_eq_of_lt h10]; rfl
  · refine Or.inr ⟨by omega, ?_⟩
    rcases h with ⟨h1, h2⟩ | ⟨h1, ⟨h2, _⟩ | ⟨_, h3⟩⟩
    · subst h1; subst h2; rw [decL_big h10]
    · omega
    · rw [h3, decL_big h10]; simp

theorem cells_drop {cs : Array Value} {k : Nat} {v : Value} (h : 0 < k) (hk : k ≤ cs.size) : (cs.setIfInBounds (k - 1) v).toList.drop (k - 1) = v :: cs.toList.drop k := by
  have h1 : k - 1 < (cs.setIfInBounds (k - 1) v).toList.length := by simp; omega
  rw [drop_cons h1]
  congr 1
  · simp
  · rw [show k - 1 + 1 = k by omega, Array.toList_setIfInBounds, List.drop_set_of_lt (by omega)]

theorem blk_set {w : World} {g : Nat} {cs : Array Value} {t : TypeId} (h : w.heap[g]? = some (.cells cs t (0, 0))) (i : Nat) (v : Value) : (w.setCell ⟨g, i, none⟩ v).heap[g]? = some (.cells (cs.setIfInBounds i v) t (0, 0)) := by
  simp [World.setCell, Array.getElem?_modify, h]
theorem lit_val {j : Nat} (h : j < litDigits.size) (hj : j < 10) : Value.int .u8 (litDigits[j].toNat) = Value.int .u8 ((UInt8.ofNat (48 + j)).toNat) := by rw [lit_at h hj]

set_option maxRecDepth 100000 in
set_option maxHeartbeats 2000000 in
theorem fmtU_any (n : Nat) (w : World) (hn : n < 10000) :
    Calls Tryd.prog 94 #[.int .u64 n, .int .i64 10] w fun e w' => e = .returned (.string ⟨(decL n).toArray⟩) ∧ Below w.heap.size w w' := by
  go_enter Tryd.func94, Tryd.ntmps94
  go_wp2
  go_loopw [0, 6] (fun v0 v6 wr => ∃ (m : Nat) (k : Nat) (cs : Array Value) (ds : List UInt8), v0 = .int .u64 m ∧ v6 = .int .i64 k ∧ Hid (ds.length = 64 - k) ∧ k ≤ 64 ∧ 60 ≤ k ∧ (k = 64 → m < 10000) ∧ (k = 63 → m < 1000) ∧ (k = 62 → m < 100) ∧ (k = 61 → m < 10) ∧ (k = 60 → m < 1) ∧ wr.heap[w.heap.size]? = some (.cells cs 144 (0, 0)) ∧ Hid (cs.size = 64 ∧ cs.toList.drop k = Lib.byteCells ds) ∧ Below w.heap.size w wr ∧ DecRel n m ds) (fun _ v6 _ => (intOf v6).toNat)
  case atStart => exact ⟨n, 64, _, [], rfl, rfl, rfl, by omega, by omega, by omega, by omega, by omega, by omega, by omega, heap_alloc_new w _, ⟨rfl, rfl⟩, (Below.refl _ w).alloc (Nat.le_refl _) _, Or.inl ⟨rfl, rfl⟩⟩
  case round =>
    obtain ⟨m, k, cs, ds, rfl, rfl, HL, hk1, hk2, q0, q1, q2, q3, q4, hh, HC, hb, hrel⟩ := hrel
    have hd10 : m % 10 < 10 := Nat.mod_lt _ (by omega)
    have HR := Lib.hid hrel
    have hmlt : m < 10000 := by omega
    have HN := Lib.hid (show (k - 1 = 63 → m / 10 < 1000) ∧ (k - 1 = 62 → m / 10 < 100) ∧ (k - 1 = 61 → m / 10 < 10) ∧ (k - 1 = 60 → m / 10 < 1) ∧ (0 < m → 61 ≤ k) by omega)
    clear q0 q1 q2 q3 q4
    have hfz : wr.frozen? ⟨w.heap.size, k - 1, none⟩ = false := by simp [World.frozen?, hh]
    have hcell : ∃ u, wr.cell? ⟨w.heap.size, k - 1, none⟩ = some u := ⟨cs[k - 1]'(by have := HC.out.1; omega), by rw [cell_of_row wr _ _ cs _ (0, 0) hh]; exact Array.getElem?_eq_getElem _⟩
    obtain ⟨u, hu⟩ := hcell
    have HH := Lib.hid hh
    clear hrel hh
    by_cases h64 : k = 64
    · subst h64
      go_wp2
      go_roundw
      case rel =>
        refine ⟨m / 10, 63, _, UInt8.ofNat (48 + m % 10) :: ds, by go_num, rfl, ?_, by omega, by omega, by omega, (fun _ => HN.out.1 (by trivial)), by omega, by omega, by omega, blk_set HH.out 63 _, ?_, hb.setCell (Nat.le_refl _) _, HR.out.step (Or.inl (List.eq_nil_of_length_eq_zero (by have := HL.out; omega)))⟩
        · show _ = _
          have := HL.out; simp at this ⊢; omega
        · refine ⟨by simp [HC.out.1], ?_⟩
          have h := cells_drop (cs := cs) (k := 64) (v := .int .u8 ((UInt8.ofNat (48 + m % 10)).toNat)) (by omega) (by have := HC.out.1; omega)
          rw [HC.out.2] at h
          have e := lit_val (j := m % 10) (by show _ < 36; omega) hd10
          rw [← e] at h
          exact h.trans (by rw [e]; rfl)
      case measure => simp [intOf]
    · have hk : ((k : Int) == 64) = false := by rw [beq_eq_false_iff_ne]; omega
      have hne : ds ≠ [] := by intro e; have := HL.out; rw [e] at this; simp at this; omega
      have HNE := Lib.hid hne
      have hk64 : k < 64 := by omega
      clear h64 hne
      by_cases hm : 0 < m
      · have hk61 : 61 ≤ k := HN.out.2.2.2.2 hm
        go_wp2
        go_roundw
        case rel =>
          refine ⟨m / 10, k - 1, _, UInt8.ofNat (48 + m % 10) :: ds, by go_num, by go_num, ?_, by omega, by omega, by omega, HN.out.1, HN.out.2.1, HN.out.2.2.1, HN.out.2.2.2.1, blk_set HH.out (k - 1) _, ?_, hb.setCell (Nat.le_refl _) _, HR.out.step (Or.inr hm)⟩
          · show _ = _
            have := HL.out; simp; omega
          · refine ⟨by simp [HC.out.1], ?_⟩
            have h := cells_drop (cs := cs) (k := k) (v := .int .u8 ((UInt8.ofNat (48 + m % 10)).toNat)) (by omega) (by have := HC.out.1; omega)
            rw [HC.out.2] at h
            have e := lit_val (j := m % 10) (by show _ < 36; omega) hd10
            rw [← e] at h
            exact h.trans (by rw [e]; rfl)
        case measure => simp [intOf]; omega
      · have hm0 : m = 0 := by omega
        subst hm0
        have hdec : decL n = ds := by
          rcases HR.out with ⟨h1, _⟩ | ⟨_, ⟨_, h2⟩ | ⟨h2, _⟩⟩
          · exact absurd h1 HNE.out
          · exact h2
          · omega
        have hcells : ∀ i, i < 64 - k → wr.cell? ⟨w.heap.size, k + i, none⟩ = some (.int .u8 ((ds.map fun b => (b.toNat : Int)).getD i 0)) := by
          intro i hi
          rw [cell_of_row wr _ _ cs _ (0, 0) HH.out, ← Array.getElem?_toList]
          have h := HC.out.2
          have h2 : (cs.toList.drop k)[i]? = cs.toList[k + i]? := List.getElem?_drop
          rw [← h2, h]
          have hl := HL.out
          have hi2 : i < ds.length := by omega
          simp [Lib.byteCells, List.getElem?_map, List.getElem?_eq_getElem hi2, List.getD]
        have hcv := run_convert_bytes_arg (P := Tryd.prog) wr 62 5 Tryd.underlying62 Tryd.underlying5 w.heap.size k (64 - k) (64 - k) (ds.map fun b => (b.toNat : Int)) (by rw [List.length_map]; exact HL.out) hcells 9 Tryd.underlying9
        have hsl : (Instr.sliceAt 144 (.pointer (some ⟨w.heap.size, 0, none⟩)) (some (.int .i64 k)) none none).run Tryd.prog wr = .ok (.slice (some ⟨w.heap.size, k, none⟩) (64 - k) (64 - k)) wr := by
          have hln : Tryd.prog.arrayLen 144 = 64 := by kernel_rfl
          have hel : Tryd.prog.elem 144 = 5 := by kernel_rfl
          rw [run_sliceAt_array_l wr 144 ⟨w.heap.size, 0, none⟩ (by rw [hln, hel]; exact Tryd.underlying144) .i64 k (by omega) (by rw [hln]; omega)]
          rw [hel, Tryd.sizeOf5 wr]
          simp only [Result.andThen, slicedAt, hln, Int.toNat_natCast]
          rw [if_neg (by omega)]
          have : (⟨w.heap.size, 0, none⟩ : Addr).add (k * 1) = ⟨w.heap.size, k, none⟩ := by unfold Addr.add; rw [if_neg (by omega)]; simp
          rw [this]
        have HD := Lib.hid hdec
        clear hcells hdec hfz hu
        go_wp2
        go_ret
        exact ⟨ret_str (by rw [HD.out]; apply bl_ext; rw [bl, strOfNums_data, List.map_map]; conv => rhs; rw [bl_mk, ← List.map_id ds]
                           apply List.map_congr_left; intro b _; simp), hb⟩
end Go.Proofs.YtlclmpiocbkabaaDoor
