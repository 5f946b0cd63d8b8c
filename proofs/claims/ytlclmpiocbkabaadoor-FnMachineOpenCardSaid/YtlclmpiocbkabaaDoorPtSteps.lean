/- Walk of spec.PtSteps: a row of steps, one a character. Condition: the size that is named. -/
import Derived.Test.YtlclmpiocbkabaaDoorKnown
import Derived.Test.YtlclmpiocbkabaaDoorSplit
import Derived.Test.YtlclmpiocbkabaaDoorPlain
import Derived.Test.YtlclmpiocbkabaaDoorWords
namespace Go.Proofs.YtlclmpiocbkabaaDoor
open Go.RowKit
set_option linter.unusedVariables false
set_option linter.unusedSimpArgs false

theorem own_apart {w w2 : World} {K B e size n : Nat} {v : Value} {xs : List Value} {t : ByteArray} {q : Nat} (h : w.ownsRow B e size v n xs) (hK : w.heap[K]? = some (.stringIter t q)) (ho : ∀ j, j ≠ K → w2.heap[j]? = w.heap[j]?) : w2.ownsRow B e size v n xs := by
  obtain ⟨g1, g2⟩ := h
  refine ⟨g1, ?_⟩
  rcases g2 with g2 | ⟨g, cap, cur, rfl, hg, hh, r⟩
  · exact Or.inl g2
  · refine Or.inr ⟨g, cap, cur, rfl, hg, (ho g ?_).trans hh, r⟩
    rintro rfl
    rw [hK] at hh
    cases hh
theorem own_ne_iter {w : World} {K B e size n : Nat} {v : Value} {xs : List Value} {t : ByteArray} {q : Nat} (h : w.ownsRow B e size v n xs) (hK : w.heap[K]? = some (.stringIter t q)) : some K ≠ v.ownBlock := by
  rcases h.2 with ⟨rfl, _⟩ | ⟨g, cap, cur, rfl, _, hh, _⟩
  · simp [Value.ownBlock]
  · intro he
    have he2 : some K = some g := he
    injection he2 with he2
    subst he2
    rw [hK] at hh
    cases hh
def stepC (r : Int) : List Value := [.int .i64 0, .int .i32 r, .string ⟨#[]⟩]
def stepsC (rs : List Int) : List Value := rs.flatMap stepC
theorem stepsC_snoc (rs : List Int) (r : Int) : stepsC (rs ++ [r]) = stepsC rs ++ stepC r := by simp [stepsC]
theorem infoEscStep : (Tryd.prog.info? 36).map (fun i => (i.zero, i.size, i.bytes)) = some (some (.agg #[.int .i64 0, .int .i32 0, .string ⟨#[]⟩]), 3, 32) := by kernel_rfl

set_option maxRecDepth 100000 in
set_option maxHeartbeats 3000000 in
theorem ptSteps_any (t : ByteArray) (w : World) (ht : t.size ≤ 1000000) :
    Calls Tryd.prog 34 #[.string t] w fun e w' => ∃ v, e = .returned v ∧ w'.ownsRow w.heap.size 36 3 v (runes t).length (stepsC (runes t)) ∧ Below w.heap.size w w' := by
  obtain ⟨i0, hi, hz0, hz1, hz2⟩ := info_parts infoEscStep
  go_enter Tryd.func34, Tryd.ntmps34
  go_wp2
  go_loopw [3] (fun v3 wr => ∃ (pos : Nat) (done : List Int), wr.heap[w.heap.size]? = some (.stringIter t pos) ∧ pos ≤ t.size ∧ wr.ownsRow w.heap.size 36 3 v3 done.length (stepsC done) ∧ Below w.heap.size w wr ∧ Hid (runes t = done ++ runesFrom t pos ∧ done.length ≤ pos)) (fun _ wr => t.size - wr.iterPos w.heap.size)
  case atStart => exact ⟨0, [], World.iter_heap w t 0, Nat.zero_le _, World.ownsRow_nil _ _ _ _, (Below.refl _ w).alloc (Nat.le_refl _) (.stringIter t 0), Lib.hid ⟨rfl, Nat.le_refl _⟩⟩
  case round =>
    obtain ⟨pos, done, hit, hps, hown, hbw, HC⟩ := hrel
    by_cases hlt : pos < t.size
    · obtain ⟨r, pos2, wr2, hr2, h0, h1, hl, hle, hit2, hbw2, hsz, hoth, hnx⟩ := iter_next (P := Tryd.prog) hit hlt hbw (Nat.le_refl _)
      have hown2 := own_apart hown hit hoth
      have HN := Lib.hid (show runes t = (done ++ [r]) ++ runesFrom t pos2 by rw [HC.out.1, hr2, List.append_assoc]; rfl)
      have HM := Lib.hid (show ∀ w1 : World, w1.heap[w.heap.size]? = some (.stringIter t pos2) → t.size - w1.iterPos w.heap.size < t.size - wr.iterPos w.heap.size by
        intro w1 h; have e1 := iterPos_of hit; have e2 := iterPos_of h; omega)
      have hdl : done.length ≤ 1000000 := by have := HC.out.2; omega
      have hszw := hbw2.size
      have hK2 := hit2
      clear hr2 hbw hoth hown hsz hit
      go_wp2_with (at_builtin; go_loud (refine wpList_append_own _ rfl _ _ 37 rfl w.heap.size 36 i0 (.agg #[.int .i64 0, .int .i32 0, .string ⟨#[]⟩]) 3 32 Tryd.underlying37 hi hz0 hz1 hz2 rfl (by decide) _ _ _ rfl (hown2.alloc _) ⟨wr2.heap.size, 0, none⟩ 1 1 (stepC r) rfl rfl (World.news_of_block (cs := #[.int .i64 0, .int .i32 r, .string ⟨#[]⟩]) (heap_alloc_new _ _)) (by intro u hu; simp [stepC] at hu; rcases hu with rfl | rfl | rfl <;> rfl) (by unfold maxLen; omega) (by omega) (by simp; omega) ?_))
      intro v' w3 hown' hgrow _
      have hb3 := (hbw2.alloc hszw (.cells #[.int .i64 0, .int .i32 r, .string ⟨#[]⟩] 36)).grown hgrow (by simp; omega) (fun j hj => (World.ownsRow.lt hown2 _ hj).1)
      have hit3 : w3.heap[w.heap.size]? = some (.stringIter t pos2) := (hgrow.block w.heap.size (by have := (Array.getElem?_eq_some_iff.1 hK2).1; simp; omega) (own_ne_iter hown2 hK2)).trans ((heap_alloc_old wr2 _ (Array.getElem?_eq_some_iff.1 hK2).1).trans hK2)
      have HL := Lib.hid (show (done ++ [r]).length ≤ pos2 by have := HC.out.2; simp; omega)
      clear hgrow hown2 hit2 hK2 hbw2 hnx
      go_wp2
      go_roundw
      case rel =>
        refine ⟨pos2, done ++ [r], hit3, hle, ?_, hb3, Lib.hid ⟨HN.out, HL.out⟩⟩
        rw [stepsC_snoc, List.length_append]
        exact hown'
      case measure => exact HM.out _ hit3
    · have hnx : ∀ ty, (Instr.next (.pointer (some ⟨w.heap.size, 0, none⟩)) true ty).run Tryd.prog wr = _ := fun ty => Lib.run_next_end_at wr w.heap.size t pos ty hit hlt
      have HE := Lib.hid (show runes t = done by rw [HC.out.1, runesFrom_end hlt, List.append_nil])
      clear HC hit
      go_wp2
      go_ret
      refine ⟨_, rfl, ?_, hbw⟩
      rw [HE.out]
      exact hown
end Go.Proofs.YtlclmpiocbkabaaDoor
