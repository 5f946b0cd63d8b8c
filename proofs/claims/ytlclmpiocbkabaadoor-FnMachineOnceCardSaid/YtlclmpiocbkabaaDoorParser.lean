/- The parser in memory; walks of its methods that write the codes. Conditions: as each says. -/
import Derived.Test.YtlclmpiocbkabaaDoorMachPlain
import Derived.Test.YtlclmpiocbkabaaDoorAtoi
import Derived.Test.YtlclmpiocbkabaaDoorCut
namespace Go.Proofs.YtlclmpiocbkabaaDoor
open Go.RowKit
set_option linter.unusedVariables false

/-- The parser's block. -/
abbrev pcells (vm : Value) (i : Bool) (k : Int) (vb : Value) : Array Value := #[vm, .bool i, .int .i64 k, vb]
/-- The parser in block p, its codes in map b; what else it holds: q. -/
structure MAt (w : World) (p b : Nat) (i : Bool) (k : Int) (vb : Value) (l : List Int) : Prop where
  blk : w.heap[p]? = some (.cells (pcells (.map (some b)) i k vb) 64 (0, 0))
  set : SetAt w b l
/-- Nothing has turned but blocks p and b, and what is new. -/
structure Only (w w' : World) (p b : Nat) : Prop where
  os : w'.os = w.os
  tape : w'.tape = w.tape
  output : w'.output = w.output
  size : w.heap.size ≤ w'.heap.size
  block : ∀ k, k < w.heap.size → k ≠ p → k ≠ b → w'.heap[k]? = w.heap[k]?
theorem Only.refl (w : World) (p b : Nat) : Only w w p b := ⟨rfl, rfl, rfl, Nat.le_refl _, fun _ _ _ _ => rfl⟩
theorem Only.grown {w w1 w2 : World} {p b : Nat} (h : Only w w1 p b) (g : w1.grownBy w2 (some b)) : Only w w2 p b :=
  ⟨g.os.trans h.os, g.tape.trans h.tape, g.output.trans h.output, Nat.le_trans h.size g.size, fun k hk h1 h2 => (g.block k (Nat.lt_of_lt_of_le hk h.size) (fun e => h2 (by injection e))).trans (h.block k hk h1 h2)⟩
theorem MAt.cell {w : World} {p b : Nat} {i : Bool} {k : Int} {vb : Value} {l : List Int} (h : MAt w p b i k vb l) : w.cell? ⟨p, 0, none⟩ = some (.map (some b)) := cell_of_row w p 0 _ _ _ h.blk
theorem MAt.ne {w : World} {p b : Nat} {i : Bool} {k : Int} {vb : Value} {l : List Int} (h : MAt w p b i k vb l) : p ≠ b := by
  rintro rfl
  obtain ⟨es, clock, hb, _⟩ := h.set
  rw [h.blk] at hb
  cases hb
theorem MAt.lt {w : World} {p b : Nat} {i : Bool} {k : Int} {vb : Value} {l : List Int} (h : MAt w p b i k vb l) : p < w.heap.size ∧ b < w.heap.size := ⟨(Array.getElem?_eq_some_iff.1 h.blk).1, h.set.lt⟩
theorem MAt.turn {w w' : World} {p b : Nat} {i : Bool} {k : Int} {vb : Value} {l l' : List Int} (h : MAt w p b i k vb l) (hs : SetAt w' b l') (g : w.grownBy w' (some b)) : MAt w' p b i k vb l' :=
  ⟨(g.block p h.lt.1 (fun e => h.ne (by injection e))).trans h.blk, hs⟩

theorem delR_none (a : Int) (l : List Int) : delR a (a - 1) l = l := by
  unfold delR
  rw [List.filter_eq_self]
  intro y _
  by_cases h : a ≤ y
  · rw [decide_eq_true h, decide_eq_false (by omega)]; rfl
  · rw [decide_eq_false h]; rfl
theorem delR_step (a b : Int) (hab : a ≤ b + 1) (l : List Int) : delC (b + 1) (delR a b l) = delR a (b + 1) l := by
  unfold delC delR
  rw [List.filter_filter]
  apply List.filter_congr
  intro y _
  by_cases h1 : a ≤ y
  · rw [decide_eq_true h1]
    by_cases h2 : y = b + 1
    · subst h2; simp
    · have : (y == b + 1) = false := by rw [beq_eq_false_iff_ne]; exact h2
      rw [this]
      by_cases h3 : y ≤ b
      · rw [decide_eq_true h3, decide_eq_true (by omega)]; rfl
      · rw [decide_eq_false h3, decide_eq_false (by omega)]; rfl
  · have h2 : (y == b + 1) = false := by rw [beq_eq_false_iff_ne]; omega
    rw [decide_eq_false h1, h2]; rfl
theorem wf64 {x : Int} (h0 : -9223372036854775808 ≤ x) (h1 : x ≤ 9223372036854775807) : (Lit.int .i64 x).wf = true := by
  simp only [Lit.wf, Bool.and_eq_true, decide_eq_true_eq]
  exact ⟨h0, h1⟩
theorem mapUnder : Tryd.prog.underlying 60 = some (.map 3 4) := Tryd.underlying60

theorem delR_next (a j : Int) (h : a ≤ j) (l : List Int) : delC j (delR a (j - 1) l) = delR a (j + 1 - 1) l := by
  have e := delR_step a (j - 1) (by omega) l
  rw [show j - 1 + 1 = j by omega] at e
  rw [e, show j + 1 - 1 = j by omega]
-- LOOPS
set_option maxRecDepth 100000 in
set_option maxHeartbeats 4000000 in
theorem clearStd_any (p b : Nat) (i : Bool) (k : Int) (vb : Value) (l : List Int) (fg : Bool) (w : World) (h : MAt w p b i k vb l) :
    Calls Tryd.prog 88 #[.pointer (some ⟨p, 0, none⟩), .bool fg] w fun e w' => e = .returned (.tuple #[]) ∧ MAt w' p b i k vb (clearStd fg l) ∧ Only w w' p b ∧ w'.heap.size = w.heap.size := by
  cases fg with
  | true =>
    go_enter Tryd.func88, Tryd.ntmps88
    go_wp2
    go_loopw [4] (fun v4 wr => ∃ j : Int, v4 = .int .i64 j ∧ 30 ≤ j ∧ j ≤ 38 ∧ MAt wr p b i k vb (delR 30 (j - 1) l) ∧ Only w wr p b ∧ wr.heap.size = w.heap.size) (fun v4 _ => (38 - intOf v4).toNat)
    case atStart => exact ⟨30, rfl, by omega, by omega, by rw [delR_none]; exact h, (Only.refl _ _ _), rfl⟩
    case round =>
      obtain ⟨j, rfl, hj0, hj1, hm, ho, hz⟩ := hrel
      by_cases hj : j ≤ 37
      · have hc := hm.cell
        have hs := hm.set
        go_wp2_with (at_delete; refine wpList_del_codes rfl _ _ _ rfl mapUnder b _ rfl hs _ rfl (wf64 (by omega) (by omega)) ?_)
        intro w1 hs1 hg1 hz1
        rw [delR_next _ _ hj0] at hs1
        go_wp2
        exact ⟨⟨j + 1, rfl, by omega, by omega, hm.turn hs1 hg1, ho.grown hg1, hz1⟩, by simp [intOf]; omega⟩
      · obtain rfl : j = 38 := by omega
        have hm0 : MAt wr p b i k vb (delR 30 37 l) := hm
        have ho0 := ho
        have hz0 := hz
        obtain ⟨wq0, hq0⟩ : ∃ q, q = wr := ⟨_, rfl⟩
        rw [← hq0] at hm0 ho0 hz0 ⊢
        clear hm ho hz hq0
        go_wp2
        go_loopw [5] (fun v5 wr => ∃ j : Int, v5 = .int .i64 j ∧ 90 ≤ j ∧ j ≤ 98 ∧ MAt wr p b i k vb (delR 90 (j - 1) (delR 30 37 l)) ∧ Only w wr p b ∧ wr.heap.size = w.heap.size) (fun v5 _ => (98 - intOf v5).toNat)
        case atStart => exact ⟨90, rfl, by omega, by omega, by rw [delR_none]; exact hm0, ho0, hz0⟩
        case round =>
          obtain ⟨j, rfl, hj0, hj1, hm, ho, hz⟩ := hrel
          by_cases hj : j ≤ 97
          · have hc := hm.cell
            have hs := hm.set
            go_wp2_with (at_delete; refine wpList_del_codes rfl _ _ _ rfl mapUnder b _ rfl hs _ rfl (wf64 (by omega) (by omega)) ?_)
            intro w1 hs1 hg1 hz1
            rw [delR_next _ _ hj0] at hs1
            go_wp2
            exact ⟨⟨j + 1, rfl, by omega, by omega, hm.turn hs1 hg1, ho.grown hg1, hz1⟩, by simp [intOf]; omega⟩
          · obtain rfl : j = 98 := by omega
            have hm1 : MAt wr p b i k vb (delR 90 97 (delR 30 37 l)) := hm
            have ho1 := ho
            have hz1 := hz
            obtain ⟨wq1, hq1⟩ : ∃ q, q = wr := ⟨_, rfl⟩
            rw [← hq1] at hm1 ho1 hz1 ⊢
            clear hm ho hz hq1
            go_wp2
            go_end0
            exact ⟨rfl, hm1, ho1, hz1⟩
  | false =>
    go_enter Tryd.func88, Tryd.ntmps88
    go_wp2
    go_loopw [6] (fun v6 wr => ∃ j : Int, v6 = .int .i64 j ∧ 40 ≤ j ∧ j ≤ 48 ∧ MAt wr p b i k vb (delR 40 (j - 1) l) ∧ Only w wr p b ∧ wr.heap.size = w.heap.size) (fun v6 _ => (48 - intOf v6).toNat)
    case atStart => exact ⟨40, rfl, by omega, by omega, by rw [delR_none]; exact h, (Only.refl _ _ _), rfl⟩
    case round =>
      obtain ⟨j, rfl, hj0, hj1, hm, ho, hz⟩ := hrel
      by_cases hj : j ≤ 47
      · have hc := hm.cell
        have hs := hm.set
        go_wp2_with (at_delete; refine wpList_del_codes rfl _ _ _ rfl mapUnder b _ rfl hs _ rfl (wf64 (by omega) (by omega)) ?_)
        intro w1 hs1 hg1 hz1
        rw [delR_next _ _ hj0] at hs1
        go_wp2
        exact ⟨⟨j + 1, rfl, by omega, by omega, hm.turn hs1 hg1, ho.grown hg1, hz1⟩, by simp [intOf]; omega⟩
      · obtain rfl : j = 48 := by omega
        have hm0 : MAt wr p b i k vb (delR 40 47 l) := hm
        have ho0 := ho
        have hz0 := hz
        obtain ⟨wq0, hq0⟩ : ∃ q, q = wr := ⟨_, rfl⟩
        rw [← hq0] at hm0 ho0 hz0 ⊢
        clear hm ho hz hq0
        go_wp2
        go_loopw [7] (fun v7 wr => ∃ j : Int, v7 = .int .i64 j ∧ 100 ≤ j ∧ j ≤ 108 ∧ MAt wr p b i k vb (delR 100 (j - 1) (delR 40 47 l)) ∧ Only w wr p b ∧ wr.heap.size = w.heap.size) (fun v7 _ => (108 - intOf v7).toNat)
        case atStart => exact ⟨100, rfl, by omega, by omega, by rw [delR_none]; exact hm0, ho0, hz0⟩
        case round =>
          obtain ⟨j, rfl, hj0, hj1, hm, ho, hz⟩ := hrel
          by_cases hj : j ≤ 107
          · have hc := hm.cell
            have hs := hm.set
            go_wp2_with (at_delete; refine wpList_del_codes rfl _ _ _ rfl mapUnder b _ rfl hs _ rfl (wf64 (by omega) (by omega)) ?_)
            intro w1 hs1 hg1 hz1
            rw [delR_next _ _ hj0] at hs1
            go_wp2
            exact ⟨⟨j + 1, rfl, by omega, by omega, hm.turn hs1 hg1, ho.grown hg1, hz1⟩, by simp [intOf]; omega⟩
          · obtain rfl : j = 108 := by omega
            have hm1 : MAt wr p b i k vb (delR 100 107 (delR 40 47 l)) := hm
            have ho1 := ho
            have hz1 := hz
            obtain ⟨wq1, hq1⟩ : ∃ q, q = wr := ⟨_, rfl⟩
            rw [← hq1] at hm1 ho1 hz1 ⊢
            clear hm ho hz hq1
            go_wp2
            go_end0
            exact ⟨rfl, hm1, ho1, hz1⟩
set_option maxRecDepth 100000 in
set_option maxHeartbeats 4000000 in
theorem clearFg_any (p b : Nat) (i : Bool) (k : Int) (vb : Value) (l : List Int) (w : World) (h : MAt w p b i k vb l) :
    Calls Tryd.prog 104 #[.pointer (some ⟨p, 0, none⟩)] w fun e w' => e = .returned (.tuple #[]) ∧ MAt w' p b i k vb (clearAll true l) ∧ Only w w' p b ∧ w'.heap.size = w.heap.size := by
  go_enter Tryd.func104, Tryd.ntmps104
  go_wp2
  go_loopw [2] (fun v2 wr => ∃ j : Int, v2 = .int .i64 j ∧ 30 ≤ j ∧ j ≤ 38 ∧ MAt wr p b i k vb (delR 30 (j - 1) l) ∧ Only w wr p b ∧ wr.heap.size = w.heap.size) (fun v2 _ => (38 - intOf v2).toNat)
  case atStart => exact ⟨30, rfl, by omega, by omega, by rw [delR_none]; exact h, (Only.refl _ _ _), rfl⟩
  case round =>
    obtain ⟨j, rfl, hj0, hj1, hm, ho, hz⟩ := hrel
    by_cases hj : j ≤ 37
    · have hc := hm.cell
      have hs := hm.set
      go_wp2_with (at_delete; refine wpList_del_codes rfl _ _ _ rfl mapUnder b _ rfl hs _ rfl (wf64 (by omega) (by omega)) ?_)
      intro w1 hs1 hg1 hz1
      rw [delR_next _ _ hj0] at hs1
      go_wp2
      exact ⟨⟨j + 1, rfl, by omega, by omega, hm.turn hs1 hg1, ho.grown hg1, hz1⟩, by simp [intOf]; omega⟩
    · obtain rfl : j = 38 := by omega
      have hm0 : MAt wr p b i k vb (delR 30 37 l) := hm
      have ho0 := ho
      have hz0 := hz
      obtain ⟨wq0, hq0⟩ : ∃ q, q = wr := ⟨_, rfl⟩
      rw [← hq0] at hm0 ho0 hz0 ⊢
      clear hm ho hz hq0
      go_wp2
      go_loopw [3] (fun v3 wr => ∃ j : Int, v3 = .int .i64 j ∧ 90 ≤ j ∧ j ≤ 98 ∧ MAt wr p b i k vb (delR 90 (j - 1) (delR 30 37 l)) ∧ Only w wr p b ∧ wr.heap.size = w.heap.size) (fun v3 _ => (98 - intOf v3).toNat)
      case atStart => exact ⟨90, rfl, by omega, by omega, by rw [delR_none]; exact hm0, ho0, hz0⟩
      case round =>
        obtain ⟨j, rfl, hj0, hj1, hm, ho, hz⟩ := hrel
        by_cases hj : j ≤ 97
        · have hc := hm.cell
          have hs := hm.set
          go_wp2_with (at_delete; refine wpList_del_codes rfl _ _ _ rfl mapUnder b _ rfl hs _ rfl (wf64 (by omega) (by omega)) ?_)
          intro w1 hs1 hg1 hz1
          rw [delR_next _ _ hj0] at hs1
          go_wp2
          exact ⟨⟨j + 1, rfl, by omega, by omega, hm.turn hs1 hg1, ho.grown hg1, hz1⟩, by simp [intOf]; omega⟩
        · obtain rfl : j = 98 := by omega
          have hm1 : MAt wr p b i k vb (delR 90 97 (delR 30 37 l)) := hm
          have ho1 := ho
          have hz1 := hz
          obtain ⟨wq1, hq1⟩ : ∃ q, q = wr := ⟨_, rfl⟩
          rw [← hq1] at hm1 ho1 hz1 ⊢
          clear hm ho hz hq1
          go_wp2
          go_loopw [4] (fun v4 wr => ∃ j : Int, v4 = .int .i64 j ∧ 1000 ≤ j ∧ j ≤ 1256 ∧ MAt wr p b i k vb (delR 1000 (j - 1) (delR 90 97 (delR 30 37 l))) ∧ Only w wr p b ∧ wr.heap.size = w.heap.size) (fun v4 _ => (1256 - intOf v4).toNat)
          case atStart => exact ⟨1000, rfl, by omega, by omega, by rw [delR_none]; exact hm1, ho1, hz1⟩
          case round =>
            obtain ⟨j, rfl, hj0, hj1, hm, ho, hz⟩ := hrel
            by_cases hj : j ≤ 1255
            · have hc := hm.cell
              have hs := hm.set
              go_wp2_with (at_delete; refine wpList_del_codes rfl _ _ _ rfl mapUnder b _ rfl hs _ rfl (wf64 (by omega) (by omega)) ?_)
              intro w1 hs1 hg1 hz1
              rw [delR_next _ _ hj0] at hs1
              go_wp2
              exact ⟨⟨j + 1, rfl, by omega, by omega, hm.turn hs1 hg1, ho.grown hg1, hz1⟩, by simp [intOf]; omega⟩
            · obtain rfl : j = 1256 := by omega
              have hm2 : MAt wr p b i k vb (delR 1000 1255 (delR 90 97 (delR 30 37 l))) := hm
              have ho2 := ho
              have hz2 := hz
              obtain ⟨wq2, hq2⟩ : ∃ q, q = wr := ⟨_, rfl⟩
              rw [← hq2] at hm2 ho2 hz2 ⊢
              clear hm ho hz hq2
              go_wp2
              go_end0
              exact ⟨rfl, hm2, ho2, hz2⟩
set_option maxRecDepth 100000 in
set_option maxHeartbeats 4000000 in
theorem clearBg_any (p b : Nat) (i : Bool) (k : Int) (vb : Value) (l : List Int) (w : World) (h : MAt w p b i k vb l) :
    Calls Tryd.prog 105 #[.pointer (some ⟨p, 0, none⟩)] w fun e w' => e = .returned (.tuple #[]) ∧ MAt w' p b i k vb (clearAll false l) ∧ Only w w' p b ∧ w'.heap.size = w.heap.size := by
  go_enter Tryd.func105, Tryd.ntmps105
  go_wp2
  go_loopw [2] (fun v2 wr => ∃ j : Int, v2 = .int .i64 j ∧ 40 ≤ j ∧ j ≤ 48 ∧ MAt wr p b i k vb (delR 40 (j - 1) l) ∧ Only w wr p b ∧ wr.heap.size = w.heap.size) (fun v2 _ => (48 - intOf v2).toNat)
  case atStart => exact ⟨40, rfl, by omega, by omega, by rw [delR_none]; exact h, (Only.refl _ _ _), rfl⟩
  case round =>
    obtain ⟨j, rfl, hj0, hj1, hm, ho, hz⟩ := hrel
    by_cases hj : j ≤ 47
    · have hc := hm.cell
      have hs := hm.set
      go_wp2_with (at_delete; refine wpList_del_codes rfl _ _ _ rfl mapUnder b _ rfl hs _ rfl (wf64 (by omega) (by omega)) ?_)
      intro w1 hs1 hg1 hz1
      rw [delR_next _ _ hj0] at hs1
      go_wp2
      exact ⟨⟨j + 1, rfl, by omega, by omega, hm.turn hs1 hg1, ho.grown hg1, hz1⟩, by simp [intOf]; omega⟩
    · obtain rfl : j = 48 := by omega
      have hm0 : MAt wr p b i k vb (delR 40 47 l) := hm
      have ho0 := ho
      have hz0 := hz
      obtain ⟨wq0, hq0⟩ : ∃ q, q = wr := ⟨_, rfl⟩
      rw [← hq0] at hm0 ho0 hz0 ⊢
      clear hm ho hz hq0
      go_wp2
      go_loopw [3] (fun v3 wr => ∃ j : Int, v3 = .int .i64 j ∧ 100 ≤ j ∧ j ≤ 108 ∧ MAt wr p b i k vb (delR 100 (j - 1) (delR 40 47 l)) ∧ Only w wr p b ∧ wr.heap.size = w.heap.size) (fun v3 _ => (108 - intOf v3).toNat)
      case atStart => exact ⟨100, rfl, by omega, by omega, by rw [delR_none]; exact hm0, ho0, hz0⟩
      case round =>
        obtain ⟨j, rfl, hj0, hj1, hm, ho, hz⟩ := hrel
        by_cases hj : j ≤ 107
        · have hc := hm.cell
          have hs := hm.set
          go_wp2_with (at_delete; refine wpList_del_codes rfl _ _ _ rfl mapUnder b _ rfl hs _ rfl (wf64 (by omega) (by omega)) ?_)
          intro w1 hs1 hg1 hz1
          rw [delR_next _ _ hj0] at hs1
          go_wp2
          exact ⟨⟨j + 1, rfl, by omega, by omega, hm.turn hs1 hg1, ho.grown hg1, hz1⟩, by simp [intOf]; omega⟩
        · obtain rfl : j = 108 := by omega
          have hm1 : MAt wr p b i k vb (delR 100 107 (delR 40 47 l)) := hm
          have ho1 := ho
          have hz1 := hz
          obtain ⟨wq1, hq1⟩ : ∃ q, q = wr := ⟨_, rfl⟩
          rw [← hq1] at hm1 ho1 hz1 ⊢
          clear hm ho hz hq1
          go_wp2
          go_loopw [4] (fun v4 wr => ∃ j : Int, v4 = .int .i64 j ∧ 2000 ≤ j ∧ j ≤ 2256 ∧ MAt wr p b i k vb (delR 2000 (j - 1) (delR 100 107 (delR 40 47 l))) ∧ Only w wr p b ∧ wr.heap.size = w.heap.size) (fun v4 _ => (2256 - intOf v4).toNat)
          case atStart => exact ⟨2000, rfl, by omega, by omega, by rw [delR_none]; exact hm1, ho1, hz1⟩
          case round =>
            obtain ⟨j, rfl, hj0, hj1, hm, ho, hz⟩ := hrel
            by_cases hj : j ≤ 2255
            · have hc := hm.cell
              have hs := hm.set
              go_wp2_with (at_delete; refine wpList_del_codes rfl _ _ _ rfl mapUnder b _ rfl hs _ rfl (wf64 (by omega) (by omega)) ?_)
              intro w1 hs1 hg1 hz1
              rw [delR_next _ _ hj0] at hs1
              go_wp2
              exact ⟨⟨j + 1, rfl, by omega, by omega, hm.turn hs1 hg1, ho.grown hg1, hz1⟩, by simp [intOf]; omega⟩
            · obtain rfl : j = 2256 := by omega
              have hm2 : MAt wr p b i k vb (delR 2000 2255 (delR 100 107 (delR 40 47 l))) := hm
              have ho2 := ho
              have hz2 := hz
              obtain ⟨wq2, hq2⟩ : ∃ q, q = wr := ⟨_, rfl⟩
              rw [← hq2] at hm2 ho2 hz2 ⊢
              clear hm ho hz hq2
              go_wp2
              go_end0
              exact ⟨rfl, hm2, ho2, hz2⟩
-- END

/-! ### a color of 256 -/
def set256K (b v j : Int) (l : List Int) : List Int := (insC (b + v) l).filter fun y => !(decide (b ≤ y) && decide (y ≤ j)) || y == b + v
theorem set256_none (b v : Int) (l : List Int) : set256K b v (b - 1) l = insC (b + v) l := by
  unfold set256K
  rw [List.filter_eq_self]
  intro y _
  by_cases h : b ≤ y
  · rw [decide_eq_true h, decide_eq_false (by omega)]; rfl
  · rw [decide_eq_false h]; rfl
theorem set256_same (b v j : Int) (h : j = b + v) (l : List Int) : set256K b v (j - 1) l = set256K b v (j + 1 - 1) l := by
  unfold set256K
  apply List.filter_congr
  intro y _
  by_cases e : y = b + v
  · rw [show (y == b + v) = true by rw [e]; simp]; simp
  · rw [show (y == b + v) = false by rw [beq_eq_false_iff_ne]; exact e]
    by_cases h3 : y ≤ j - 1
    · rw [decide_eq_true h3, decide_eq_true (show y ≤ j + 1 - 1 by omega)]
    · rw [decide_eq_false h3, decide_eq_false (show ¬ y ≤ j + 1 - 1 by omega)]
theorem set256_next (b v j : Int) (hb : b ≤ j) (h : j ≠ b + v) (l : List Int) : delC j (set256K b v (j - 1) l) = set256K b v (j + 1 - 1) l := by
  unfold delC set256K
  rw [List.filter_filter]
  apply List.filter_congr
  intro y _
  by_cases e : y = b + v
  · rw [show (y == b + v) = true by rw [e]; simp, show (y == j) = false by rw [beq_eq_false_iff_ne, e]; exact fun q => h q.symm]; simp
  · rw [show (y == b + v) = false by rw [beq_eq_false_iff_ne]; exact e]
    by_cases h1 : b ≤ y
    · rw [decide_eq_true h1]
      by_cases h2 : y = j
      · subst h2; rw [decide_eq_true (show y ≤ y + 1 - 1 by omega)]; simp
      · rw [show (y == j) = false by rw [beq_eq_false_iff_ne]; exact h2]
        by_cases h3 : y ≤ j - 1
        · rw [decide_eq_true h3, decide_eq_true (show y ≤ j + 1 - 1 by omega)]; rfl
        · rw [decide_eq_false h3, decide_eq_false (show ¬ y ≤ j + 1 - 1 by omega)]; rfl
    · rw [decide_eq_false h1, show (y == j) = false by rw [beq_eq_false_iff_ne]; omega]; rfl

set_option maxRecDepth 100000 in
set_option maxHeartbeats 4000000 in
theorem set256_any (p b : Nat) (i : Bool) (k : Int) (vb : Value) (l : List Int) (bs v : Int) (w : World) (h : MAt w p b i k vb l) (hb : 0 ≤ bs ∧ bs ≤ 100000) (hv : 0 ≤ v ∧ v ≤ 255) (hn : l.length < 1099511627776) :
    Calls Tryd.prog 87 #[.pointer (some ⟨p, 0, none⟩), .int .i64 bs, .int .i64 v] w fun e w' => e = .returned (.tuple #[]) ∧ MAt w' p b i k vb (set256 bs v l) ∧ Only w w' p b ∧ w'.heap.size = w.heap.size := by
  have hc0 := h.cell
  have hs0 := h.set
  go_enter Tryd.func87, Tryd.ntmps87
  go_wp2_with (at_mapUpdate; refine wpList_set_codes rfl _ _ _ _ rfl mapUnder b _ rfl hs0 (by unfold maxLen; omega) _ rfl rfl (wf64 (by omega) (by omega)) ?_)
  intro w0 hs1 hg1 hz1
  have hm1 := h.turn hs1 hg1
  have ho1 := (Only.refl w p b).grown hg1
  clear hs1 hg1 hs0 hc0
  go_wp2
  go_loopw [7] (fun v7 wr => ∃ j : Int, v7 = .int .i64 j ∧ bs ≤ j ∧ j ≤ bs + 256 ∧ MAt wr p b i k vb (set256K bs v (j - 1) l) ∧ Only w wr p b ∧ wr.heap.size = w.heap.size) (fun v7 _ => (bs + 256 - intOf v7).toNat)
  case atStart => exact ⟨bs, rfl, by omega, by omega, by rw [set256_none]; exact hm1, ho1, hz1⟩
  case round =>
    obtain ⟨j, rfl, hj0, hj1, hm, ho, hz⟩ := hrel
    by_cases hj : j ≤ bs + 255
    · by_cases he : j = bs + v
      · have he2 : (j == bs + v) = true := by rw [he]; simp
        have hm2 : MAt wr p b i k vb (set256K bs v (j + 1 - 1) l) := by rw [← set256_same bs v j he]; exact hm
        go_wp2
        exact ⟨⟨j + 1, by rw [he], by omega, by omega, hm2, ho, hz⟩, by simp [intOf]; omega⟩
      · have hc := hm.cell
        have hs := hm.set
        go_wp2_with (at_delete; refine wpList_del_codes rfl _ _ _ rfl mapUnder b _ rfl hs _ rfl (wf64 (by omega) (by omega)) ?_)
        intro w1 hs1 hg1 hz1
        rw [set256_next _ _ _ hj0 he] at hs1
        go_wp2
        exact ⟨⟨j + 1, rfl, by omega, by omega, hm.turn hs1 hg1, ho.grown hg1, hz1⟩, by simp [intOf]; omega⟩
    · obtain rfl : j = bs + 256 := by omega
      have hm2 : MAt wr p b i k vb (set256 bs v l) := by
        have e : bs + 256 - 1 = bs + 255 := by omega
        rw [e] at hm; exact hm
      go_wp2
      go_end0
      exact ⟨rfl, hm2, ho, hz⟩
/-! ### a code -/
def regB (c : Int) : Bool := decide (c < 1000) || decide (2255 < c)
theorem regular_any (p : Value) (c : Int) (w : World) :
    Calls Tryd.prog 106 #[p, .int .i64 c] w fun e w' => e = .returned (.bool (regB c)) ∧ w = w' := by
  by_cases h1 : c < 1000
  · have e := Lib.hid (show regB c = true by unfold regB; rw [decide_eq_true h1]; rfl)
    go_enter Tryd.func106, Tryd.ntmps106
    go_wp2
    go_ret
    exact ⟨ret_bool (by rw [e.out]), rfl⟩
  · have e := Lib.hid (show regB c = decide (2255 < c) by unfold regB; rw [decide_eq_false h1]; rfl)
    go_enter Tryd.func106, Tryd.ntmps106
    go_wp2
    go_ret
    exact ⟨ret_bool (by rw [e.out]), rfl⟩

/-- A new map for the codes. -/
theorem setCell_size (u : World) (a : Addr) (v : Value) : (u.setCell a v).heap.size = u.heap.size := by simp [World.setCell]
theorem fresh_map {w : World} {p : Nat} {vm : Value} {i : Bool} {k : Int} {vb : Value} (h : w.heap[p]? = some (.cells (pcells vm i k vb) 64 (0, 0))) :
    MAt ((w.setCell ⟨p, 0, none⟩ (.map (some w.heap.size))).alloc (.map #[] 0)) p w.heap.size i k vb [] ∧
    (∀ j, j < w.heap.size → j ≠ p → ((w.setCell ⟨p, 0, none⟩ (.map (some w.heap.size))).alloc (.map #[] 0)).heap[j]? = w.heap[j]?) ∧ ((w.setCell ⟨p, 0, none⟩ (.map (some w.heap.size))).alloc (.map #[] 0)).heap.size = w.heap.size + 1 := by
  have hp : p < w.heap.size := (Array.getElem?_eq_some_iff.1 h).1
  have hz := setCell_size w ⟨p, 0, none⟩ (.map (some w.heap.size))
  have h1 : (w.setCell ⟨p, 0, none⟩ (.map (some w.heap.size))).heap[p]? = some (.cells (pcells (.map (some w.heap.size)) i k vb) 64 (0, 0)) := heap_setCell_same _ p 0 _ _ _ h
  have h2 := SetAt.made (w.setCell ⟨p, 0, none⟩ (.map (some w.heap.size)))
  rw [hz] at h2
  refine ⟨⟨(heap_alloc_old _ _ (by rw [hz]; exact hp)).trans h1, h2⟩, fun j hj hjp => ?_, ?_⟩
  · rw [heap_alloc_old _ _ (by rw [hz]; exact hj), heap_setCell_other _ ⟨p, 0, none⟩ _ _ hjp]
  · have : ∀ (u : World) (o : Obj), (u.alloc o).heap.size = u.heap.size + 1 := fun u o => by simp
    rw [this, hz]
-- PCODE
/-- What processCode does to the parser. -/
def CodeDone (w w' : World) (p b : Nat) (i : Bool) (k : Int) (vb : Value) (l : List Int) : Prop := ∃ b', MAt w' p b' i k vb l ∧ (b' = b ∨ w.heap.size ≤ b') ∧ Only w w' p b
set_option maxRecDepth 100000 in
set_option maxHeartbeats 8000000 in
theorem procCode_any (p b : Nat) (i : Bool) (k : Int) (vb : Value) (l : List Int) (c : Int) (w : World) (h : MAt w p b i k vb l) (hc : -9223372036854775808 ≤ c ∧ c ≤ 9223372036854775807) (hn : l.length < 1099511627776) :
    Calls Tryd.prog 90 #[.pointer (some ⟨p, 0, none⟩), .int .i64 c] w fun e w' => e = .returned (.tuple #[]) ∧ CodeDone w w' p b i k vb (procCode c l) := by
  have hc0 := h.cell
  have hs0 := h.set
  by_cases n0 : c = 0
  · subst n0
    have hmm := @run_makeMap Tryd.prog
    have hf0 := frozen_of_row w p 0 _ _ h.blk
    obtain ⟨f1, f2, f3⟩ := fresh_map h.blk
    have hp := h.lt.1
    go_enter Tryd.func90, Tryd.ntmps90
    go_wp2
    go_end0
    exact ⟨rfl, _, f1, Or.inr (Nat.le_refl _), ⟨rfl, rfl, rfl, by rw [f3]; omega, fun j hj h1 _ => f2 j hj h1⟩⟩
  by_cases n22 : c = 22
  · subst n22
    go_enter Tryd.func90, Tryd.ntmps90
    go_wp2_with (at_delete; refine wpList_del_codes rfl _ _ _ rfl mapUnder b _ rfl h.set _ rfl (by decide) ?_)
    intro w1 hs1 hg1 hz1
    have h1 := h.turn hs1 hg1
    have o1 := (Only.refl w p b).grown hg1
    have hc1 := h1.cell
    clear hs1 hg1
    go_wp2_with (at_delete; refine wpList_del_codes rfl _ _ _ rfl mapUnder b _ rfl h1.set _ rfl (by decide) ?_)
    intro w2 hs2 hg2 hz2
    have h2 := h1.turn hs2 hg2
    have o2 := o1.grown hg2
    have hc2 := h2.cell
    clear hs2 hg2
    go_wp2
    go_end0
    exact ⟨rfl, b, h2, Or.inl rfl, o2⟩
  by_cases n23 : c = 23
  · subst n23
    go_enter Tryd.func90, Tryd.ntmps90
    go_wp2_with (at_delete; refine wpList_del_codes rfl _ _ _ rfl mapUnder b _ rfl h.set _ rfl (by decide) ?_)
    intro w1 hs1 hg1 hz1
    have h1 := h.turn hs1 hg1
    have o1 := (Only.refl w p b).grown hg1
    have hc1 := h1.cell
    clear hs1 hg1
    go_wp2
    go_end0
    exact ⟨rfl, b, h1, Or.inl rfl, o1⟩
  by_cases n24 : c = 24
  · subst n24
    go_enter Tryd.func90, Tryd.ntmps90
    go_wp2_with (at_delete; refine wpList_del_codes rfl _ _ _ rfl mapUnder b _ rfl h.set _ rfl (by decide) ?_)
    intro w1 hs1 hg1 hz1
    have h1 := h.turn hs1 hg1
    have o1 := (Only.refl w p b).grown hg1
    have hc1 := h1.cell
    clear hs1 hg1
    go_wp2
    go_end0
    exact ⟨rfl, b, h1, Or.inl rfl, o1⟩
  by_cases n25 : c = 25
  · subst n25
    go_enter Tryd.func90, Tryd.ntmps90
    go_wp2_with (at_delete; refine wpList_del_codes rfl _ _ _ rfl mapUnder b _ rfl h.set _ rfl (by decide) ?_)
    intro w1 hs1 hg1 hz1
    have h1 := h.turn hs1 hg1
    have o1 := (Only.refl w p b).grown hg1
    have hc1 := h1.cell
    clear hs1 hg1
    go_wp2_with (at_delete; refine wpList_del_codes rfl _ _ _ rfl mapUnder b _ rfl h1.set _ rfl (by decide) ?_)
    intro w2 hs2 hg2 hz2
    have h2 := h1.turn hs2 hg2
    have o2 := o1.grown hg2
    have hc2 := h2.cell
    clear hs2 hg2
    go_wp2
    go_end0
    exact ⟨rfl, b, h2, Or.inl rfl, o2⟩
  by_cases n27 : c = 27
  · subst n27
    go_enter Tryd.func90, Tryd.ntmps90
    go_wp2_with (at_delete; refine wpList_del_codes rfl _ _ _ rfl mapUnder b _ rfl h.set _ rfl (by decide) ?_)
    intro w1 hs1 hg1 hz1
    have h1 := h.turn hs1 hg1
    have o1 := (Only.refl w p b).grown hg1
    have hc1 := h1.cell
    clear hs1 hg1
    go_wp2
    go_end0
    exact ⟨rfl, b, h1, Or.inl rfl, o1⟩
  by_cases n29 : c = 29
  · subst n29
    go_enter Tryd.func90, Tryd.ntmps90
    go_wp2_with (at_delete; refine wpList_del_codes rfl _ _ _ rfl mapUnder b _ rfl h.set _ rfl (by decide) ?_)
    intro w1 hs1 hg1 hz1
    have h1 := h.turn hs1 hg1
    have o1 := (Only.refl w p b).grown hg1
    have hc1 := h1.cell
    clear hs1 hg1
    go_wp2
    go_end0
    exact ⟨rfl, b, h1, Or.inl rfl, o1⟩
  by_cases n39 : c = 39
  · subst n39
    go_enter Tryd.func90, Tryd.ntmps90
    go_wp2_with fail
    refine (clearFg_any p b i k vb l _ h).mono ?_
    rintro e w1 ⟨rfl, h1, o1, z1⟩
    go_wp2
    go_end0
    exact ⟨rfl, b, h1, Or.inl rfl, o1⟩
  by_cases n49 : c = 49
  · subst n49
    go_enter Tryd.func90, Tryd.ntmps90
    go_wp2_with fail
    refine (clearBg_any p b i k vb l _ h).mono ?_
    rintro e w1 ⟨rfl, h1, o1, z1⟩
    go_wp2
    go_end0
    exact ⟨rfl, b, h1, Or.inl rfl, o1⟩
  have hq := Lib.hid (show procCode c l = if c < 1000 ∨ 2255 < c then insC c l else l by
    unfold procCode
    rw [if_neg n0, if_neg n22, if_neg n23, if_neg n24, if_neg n25, if_neg n27, if_neg n29, if_neg n39, if_neg n49])
  have hwf := wf64 hc.1 hc.2
  cases hr : regB c with
  | true =>
    have hq2 := Lib.hid (show procCode c l = insC c l by rw [hq.out, if_pos (by unfold regB at hr; simpa using hr)])
    have HR := Lib.hid hr
    clear hr hq
    go_enter Tryd.func90, Tryd.ntmps90
    go_wp2_with fail
    refine (regular_any _ c _).mono ?_
    rintro e w1 ⟨rfl, rfl⟩
    rw [HR.out]
    go_wp2_with (at_mapUpdate; refine wpList_set_codes rfl _ _ _ _ rfl mapUnder b _ rfl hs0 (by unfold maxLen; omega) _ rfl rfl hwf ?_)
    intro w1 hs1 hg1 hz1
    have h1 := h.turn hs1 hg1
    have o1 := (Only.refl w p b).grown hg1
    rw [← hq2.out] at h1
    go_wp2
    go_end0
    exact ⟨rfl, b, h1, Or.inl rfl, o1⟩
  | false =>
    have hq2 := Lib.hid (show procCode c l = l by rw [hq.out, if_neg (by unfold regB at hr; simpa using hr)])
    have HR := Lib.hid hr
    clear hr hq
    go_enter Tryd.func90, Tryd.ntmps90
    go_wp2_with fail
    refine (regular_any _ c _).mono ?_
    rintro e w1 ⟨rfl, rfl⟩
    rw [HR.out]
    go_wp2
    go_end0
    exact ⟨rfl, b, by rw [hq2.out]; exact h, Or.inl rfl, Only.refl _ _ _⟩
-- PEND
end Go.Proofs.YtlclmpiocbkabaaDoor
