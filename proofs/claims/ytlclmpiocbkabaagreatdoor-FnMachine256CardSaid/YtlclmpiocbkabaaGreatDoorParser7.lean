/- Walks of the parser's Codes, Sequence, ParseString. Conditions: as each says. -/
import Derived.Test.YtlclmpiocbkabaaGreatDoorParser6
import Derived.Maps.RangeWalk
import Derived.Sort.OwnSortedInts
import Derived.Shelf.Sort.Plain
import Derived.Laws.IdiomRangeMap
import Derived.LoopN
namespace Go.Proofs.YtlclmpiocbkabaaGreatDoor
open Go.RowKit Go.Maps Go.Sort
set_option linter.unusedVariables false

/-! ### the codes, sorted -/
/-- The codes that the range has come by. -/
def GotC (codes : List Int) (left : Lit → Bool) (ss : List Int) : Prop := ss.Nodup ∧ ∀ x, (x ∈ ss ↔ (x ∈ codes ∧ left (.int .i64 x) = false)) ∧ (left (.int .i64 x) = true → x ∈ codes)
theorem GotC.start (codes : List Int) : GotC codes (Maps.has (codesD codes)) [] := by
  refine ⟨List.nodup_nil, fun x => ⟨?_, ?_⟩⟩
  · rw [has_codes]
    simp
  · rw [has_codes]
    simp
theorem GotC.step {codes : List Int} {left : Lit → Bool} {ss : List Int} (h : GotC codes left ss) {x : Int} (hx : left (.int .i64 x) = true) : GotC codes (fun z => left z && !z.sameKey (.int .i64 x)) (ss ++ [x]) := by
  obtain ⟨h1, h2⟩ := h
  have hnot : x ∉ ss := fun hm => by
    have := ((h2 x).1.1 hm).2
    rw [hx] at this; cases this
  refine ⟨?_, fun y => ⟨?_, ?_⟩⟩
  · rw [List.nodup_append]
    refine ⟨h1, by simp, fun a ha b hb => ?_⟩
    rw [List.mem_singleton.1 hb]
    rintro rfl
    exact hnot ha
  · dsimp only
    rw [List.mem_append, List.mem_singleton, (h2 y).1, same_code]
    by_cases e : y = x
    · subst e
      simp [hx, (h2 y).2 hx]
    · have : (y == x) = false := by rw [beq_eq_false_iff_ne]; exact e
      rw [this]
      simp [e]
  · intro hy
    dsimp only at hy
    rw [Bool.and_eq_true] at hy
    exact (h2 y).2 hy.1
theorem GotC.sorted {codes : List Int} {left : Lit → Bool} {ss : List Int} (h : GotC codes left ss) (hl : ∀ kl, left kl = false) (hr : Rising codes) : ss.mergeSort (fun x y => decide (x ≤ y)) = codes := by
  have hp := List.mergeSort_perm ss (fun x y => decide (x ≤ y))
  have hs := List.pairwise_mergeSort (le := fun x y : Int => decide (x ≤ y)) (fun a b c => by simp; omega) (fun a b => by simp; omega) ss
  refine Rising.ext ?_ hr fun x => ?_
  · have hn : (ss.mergeSort (fun x y => decide (x ≤ y))).Nodup := hp.nodup_iff.2 h.1
    unfold Rising
    exact (List.pairwise_and_iff.2 ⟨hs, hn⟩).imp fun {a b} hab => by
      have h1 := hab.1
      simp at h1
      have h2 := hab.2
      omega
  · rw [hp.mem_iff, (h.2 x).1, hl]
    simp
set_option maxRecDepth 100000 in
theorem plainBool_inv {v : Value} {y : DU × List MemPlace} (h : plainElem Tryz.prog 4 v = some y) : ∃ c, v = .bool c ∧ y = (.lit (.bool c), []) := by
  unfold plainElem at h
  rw [Tryz.underlying4] at h
  cases v <;> simp at h
  exact ⟨_, rfl, h.symm⟩

set_option maxRecDepth 100000 in
set_option maxHeartbeats 4000000 in
theorem codes_made (B p : Nat) (s : PS) (vm vb : Value) (b : Nat) (w : World) (hb : w.heap[p]? = some (.cells (pcells (.map (some b)) s.inE s.kind vb) 52 (0, 0))) (hs : SetAt w b s.codes) (hr : Rising s.codes) (hl : s.codes.length ≤ 1000000) :
    Calls Tryz.prog 28 #[.pointer (some ⟨p, 0, none⟩)] w fun e w' => ∃ v, e = .returned v ∧ w'.ownsRow w.heap.size 3 1 v s.codes.length (s.codes.map (Value.int .i64)) ∧ Below w.heap.size w w' := by
  obtain ⟨i0, hi, hz0, hz1, hz2⟩ := info_parts infoInt
  have hbl := hs.lt
  have hp := (Array.getElem?_eq_some_iff.1 hb).1
  have hc0 : w.cell? ⟨p, 0, none⟩ = some (.map (some b)) := cell_of_row w p 0 _ _ _ hb
  clear hb
  go_enter Tryz.func28, Tryz.ntmps28
  go_wp2_with (at_make; refine wpList_make_own _ rfl _ _ 27 rfl w.heap.size 3 i0 (.int .i64 0) 1 Tryz.underlying27 hi hz0 hz1 _ _ _ 0 rfl rfl rfl (by omega) (Nat.zero_le _) (Nat.le_refl _) ?_)
  intro w1 hrow1 hg1
  have hc1 : w1.cell? ⟨p, 0, none⟩ = some (.map (some b)) := (World.cell?_of_block (w := w) (hg1.block p hp (by simp))).trans hc0
  have hs1 := hs.kept hg1 (by simp)
  have hsz1 : w.heap.size ≤ w1.heap.size := hg1.size
  go_wp2_with (at_range; refine wpList_range_own _ rfl _ 48 rfl 3 4 lawInt Tryz.underlying48 _ b s.codes.length (codesD s.codes) rfl hs1 ?_; intro w0 hrg0 hg0 hs0)
  go_frame
  go_loopw [3] (fun v wr => ∃ (left : Lit → Bool) (cnt : Nat) (ss : List Int), wr.ranges Tryz.prog 3 (plainElem (H := Unit) Tryz.prog 4) b w1.heap.size s.codes.length (codesD s.codes) left cnt ∧ ss.length + cnt ≤ s.codes.length ∧ wr.ownsRow w.heap.size 3 1 v ss.length (ss.map (Value.int .i64)) ∧ v ≠ .slice none 0 0 ∧ GotC s.codes left ss ∧ Below w.heap.size w wr) (fun _ wr => wr.rangeLeft b w1.heap.size)
  case atStart =>
    exact ⟨_, _, [], hrg0, by simp [size_codes], hrow1.kept hg0 (Or.inr (by simp [Value.ownBlock])), by simp, GotC.start _, ((Below.refl _ _).grown hg1 (Nat.le_refl _) (fun j hj => by cases hj)).grown hg0 hg1.size (fun j hj => by cases hj)⟩
  case round =>
    obtain ⟨left, cnt, ss, hrg, hcs, hrow, hnn, hC, hnx⟩ := hrel
    go_wp2_with (at_next; refine wpList_next_ranges _ rfl _ rfl 3 lawInt (plainElem (H := Unit) Tryz.prog 4) (Value.int .i64) (fun c : Value => c) (fun key kl hk => by obtain ⟨x, hx, _⟩ := Maps.keyOf_int_inv Tryz.underlying3 hk; exact ⟨x, hx⟩) (fun v y hv => ⟨v, rfl⟩) b w1.heap.size _ _ _ _ rfl hrg ?_ ?_)
    · intro hc0 hl0
      rcases hrow.2 with ⟨hnil, _⟩ | ⟨g, cap, cur, rfl, hbase, hbg, h1, h2, h3, h4⟩
      · exact absurd hnil hnn
      have hlen : s.codes.length = ss.length := by
        have e := hC.sorted hl0 hr
        rw [← e, List.length_mergeSort]
      have hH : Holds (Value.int .i64) wr g 0 ss.toArray := holds_of_blockI hbg (by simpa using h4)
      have hgl : g < wr.heap.size := (Array.getElem?_eq_some_iff.1 hbg).1
      have hc := Tryz.sort_Ints g 0 cap ss wr hH hgl (by omega)
      have HS := Lib.hid (hC.sorted hl0 hr)
      have HR := Lib.hid (fun (nn : Nat) (os : Array Obj) => ownsRow_sortedI (w := wr) (n := nn) (os := os) (ts := ss.mergeSort (fun x y => decide (x ≤ y))) (by simp) hbase hbg h1 h2 h3)
      have HLEN := Lib.hid hlen
      clear hrow hnn hC hrg hbg h1 h2 h3 h4 hlen hH
      go_wp2_with fail
      refine hc.mono ?_
      rintro e w' ⟨rfl, nn, os, rfl⟩
      have hbf := hnx.grown (grownBy_sortedI (w := wr) (g := g) (n := nn) (os := os) (ss.mergeSort (fun x y => decide (x ≤ y))).toArray) hnx.size (fun j hj => by cases hj; exact hbase)
      have hrf := HR.out nn os
      go_wp2
      go_ret
      refine ⟨_, rfl, ?_, hbf⟩
      rw [HLEN.out, ← HS.out]
      exact hrf
    · intro x c kl yd yp w2 cnt2 hkey hlk hv hat hrg2 hlt hg2 hs2 hen
      obtain ⟨x', ex, rfl, _⟩ := Maps.keyOf_int_inv Tryz.underlying3 hkey
      cases ex
      obtain ⟨cb, rfl, hcb⟩ := plainBool_inv hv
      have htrue := at_codes_in (hat (.lit (.bool false))) ((hC.2 x).2 hlk)
      obtain rfl : cb = true := by
        injection hcb with h5 h6
        rw [htrue] at h5
        injection h5 with h7
        injection h7 with h8
        exact h8.symm
      have hrow2 := hrow.kept hg2 (Or.inr (row_ne_iter hrow hrg).symm)
      have HC := Lib.hid (hC.step hlk)
      have hsz2 : w.heap.size ≤ w2.heap.size := by have := hnx.size; omega
      have HB2 := Lib.hid (hnx.grown hg2 hnx.size (fun j hj => by cases hj; exact hsz1))
      have HLT := Lib.hid hlt
      have HLE := Lib.hid hrg.left_eq
      clear hs2 hC hat hv hkey hcb htrue hrow hrg hnx hlk hg2
      go_wp2_with (at_builtin; go_loud (refine wpList_append_own _ rfl _ _ 27 rfl w.heap.size 3 i0 (.int .i64 0) 1 8 Tryz.underlying27 hi hz0 hz1 hz2 rfl (by decide) _ _ _ rfl (hrow2.alloc _) ⟨w2.heap.size, 0, none⟩ 1 1 [.int .i64 x] rfl rfl (cell_one_new _ _ _) (by simp [Value.oneCell']) (by unfold maxLen; omega) (by omega) (by simp; omega) ?_))
      intro v' w3 hown' hg3 hnil3
      have hrg3 := (hrg2.alloc (.cells #[.int .i64 x] 3)).kept hg3 (row_ne_low hrow2 hbl) (row_ne_iter hrow2 hrg2)
      have hb3 := (HB2.out.alloc hsz2 (.cells #[.int .i64 x] 3)).grown hg3 (by simp; omega) (fun j hj => (hrow2.lt j hj).1)
      have HNN := Lib.hid (show v' ≠ .slice none 0 0 from fun hv' => by first | exact hnil3 hv' | (have := (hnil3.1 hv').2; omega))
      clear hrg2 hrow2 hg3 hnil3 hen
      go_wp2
      go_roundw
      case rel =>
        refine ⟨_, cnt2, ss ++ [x], hrg3, by simp; omega, by simpa using hown', HNN.out, HC.out, hb3⟩
      case measure => rw [hrg3.left_eq, HLE.out]; exact HLT.out
set_option maxRecDepth 100000 in
set_option maxHeartbeats 4000000 in
theorem codes_nil (p : Nat) (s : PS) (vb : Value) (w : World) (hb : w.heap[p]? = some (.cells (pcells (.map none) s.inE s.kind vb) 52 (0, 0))) :
    Calls Tryz.prog 28 #[.pointer (some ⟨p, 0, none⟩)] w fun e w' => ∃ v, e = .returned v ∧ w'.ownsRow w.heap.size 3 1 v 0 [] ∧ Below w.heap.size w w' := by
  obtain ⟨i0, hi, hz0, hz1, hz2⟩ := info_parts infoInt
  have hp := (Array.getElem?_eq_some_iff.1 hb).1
  have hc0 : w.cell? ⟨p, 0, none⟩ = some (.map none) := cell_of_row w p 0 _ _ _ hb
  clear hb
  go_enter Tryz.func28, Tryz.ntmps28
  go_wp2_with (at_make; refine wpList_make_own _ rfl _ _ 27 rfl w.heap.size 3 i0 (.int .i64 0) 1 Tryz.underlying27 hi hz0 hz1 _ _ _ 0 rfl rfl rfl (by omega) (Nat.zero_le _) (Nat.le_refl _) ?_)
  intro w1 hrow1 hg1
  have hc1 : w1.cell? ⟨p, 0, none⟩ = some (.map none) := (World.cell?_of_block (w := w) (hg1.block p hp (by simp))).trans hc0
  have hrg := run_range_nilMap (P := Tryz.prog) w1 48 3 4 Tryz.underlying48
  have hnx : ∀ ty, (Instr.next (.pointer (some ⟨w1.heap.size, 0, none⟩)) false ty).run Tryz.prog (w1.alloc (.mapIter none 0 #[] 0)) = _ := fun ty => run_next_nilMap _ ty 0 0 #[]
  go_wp2
  refine wp_loop_rounds 1 ?_
  rw [rounds_succ]
  have hrow2 := hrow1.alloc (.mapIter none 0 #[] 0)
  rcases hrow2.2 with ⟨hnil, _⟩ | ⟨g, cap, cur, hv, hbase, hbg, h1, h2, h3, h4⟩
  · cases hnil
  cases hv
  have hH : Holds (Value.int .i64) (w1.alloc (.mapIter none 0 #[] 0)) w.heap.size 0 ([] : List Int).toArray := fun j hj => absurd hj (by simp)
  have hc := Tryz.sort_Ints w.heap.size 0 0 [] _ hH (Array.getElem?_eq_some_iff.1 hbg).1 (by decide)
  have hsz1 : w.heap.size ≤ w1.heap.size := hg1.size
  have hbA := ((Below.refl _ _).grown hg1 (Nat.le_refl _) (fun j hj => by cases hj)).alloc hsz1 (.mapIter none 0 #[] 0)
  have HR := Lib.hid (fun (nn : Nat) (os : Array Obj) => ownsRow_sortedI (w := w1.alloc (.mapIter none 0 #[] 0)) (n := nn) (os := os) (ss := []) (ts := []) rfl hbase hbg h1 h2 h3)
  clear hrow1 hrow2 hbg h1 h2 h3 h4 hH hg1
  go_wp2_with fail
  refine hc.mono ?_
  rintro e w' ⟨rfl, nn, os, rfl⟩
  have hbf := hbA.grown (grownBy_sortedI (w := w1.alloc (.mapIter none 0 #[] 0)) (g := w.heap.size) (n := nn) (os := os) #[]) (by simp; omega) (fun j hj => by cases hj; exact Nat.le_refl _)
  have hrf := HR.out nn os
  go_wp2
  go_ret
  exact ⟨_, rfl, hrf, hbf⟩
/-- Codes: a row of the call's own. -/
theorem pcodes_any (B p : Nat) (s : PS) (w : World) (h : PAt w B p s) (hr : Rising s.codes) (hl : s.codes.length ≤ 1000000) :
    Calls Tryz.prog 28 #[.pointer (some ⟨p, 0, none⟩)] w fun e w' => ∃ v, e = .returned v ∧ w'.ownsRow w.heap.size 3 1 v s.codes.length (s.codes.map (Value.int .i64)) ∧ Below w.heap.size w w' := by
  obtain ⟨vm, vb, hb, hv, ho⟩ := h.ex
  rcases hv with ⟨rfl, he⟩ | ⟨b, rfl, _, hs⟩
  · rw [he]
    exact codes_nil p s vb w hb
  · exact codes_made B p s (.map (some b)) vb b w hb hs hr hl
end Go.Proofs.YtlclmpiocbkabaaGreatDoor
