/- Plain words on memory: what a slice of steps that came in reads as, in the words of the walks. -/
import Derived.Test.YtdkpacgbniclhaaGreatDoorOpen
import Derived.Test.YtdkpacgbniclhaaGreatDoorSteps
import Derived.Deep.Strs
namespace Go.Proofs.YtdkpacgbniclhaaGreatDoor
open Go.RowKit Go.ChangeShapes Go.Deep

theorem cellsStep : Tryz.prog.cellsOf 66 = 3 := by kernel_rfl
theorem cellsInt : Tryz.prog.cellsOf 3 = 1 := by kernel_rfl
theorem cellsString : Tryz.prog.cellsOf 9 = 1 := by kernel_rfl
theorem cellsStrings : Tryz.prog.cellsOf 35 = 1 := by kernel_rfl

set_option maxRecDepth 100000 in
theorem steps_in {H : Type} {enc : TypeId × Value → H} {w : World} {fuel : Nat} {cs : List Value} {x : DataW H × List MemPlace} (h : DataW.trod enc Tryz.prog w 0 (fun _ => true) true fuel 22 cs = some x) :
    ∃ A n c l, cs = [.slice A n c] ∧ StepsAt w w.heap.size A n c l ∧ (A = none → n = 0 ∧ c = 0) := by
  rcases open_slice Tryz.underlying22 h with ⟨rfl, _⟩ | ⟨a, len, cap, m, fu, D, Pl, rfl, _, hl, hm, hmm, _, hi⟩
  · exact ⟨none, 0, 0, [], rfl, ⟨[], Rd.nil _ _ _, rfl, fun k s hs => by simp at hs⟩, fun _ => ⟨rfl, rfl⟩⟩
  simp only [if_true] at hmm
  rw [cellsStep] at hi
  have each : ∀ i, i < m → ∃ f : Step × (Option Addr × Nat × Nat), w.cell? (a.add (i * 3)) = some (.int .i64 f.1.kind) ∧ w.cell? (a.add (i * 3 + 1)) = some (.string f.1.text) ∧ w.cell? (a.add (i * 3 + 2)) = some (.slice f.2.1 f.2.2.1 f.2.2.2) ∧ StrsAt w w.heap.size f.2.1 f.2.2.1 f.2.2.2 f.1.texts := by
    intro i him
    obtain ⟨cs', hc, ht⟩ := hi i him
    obtain ⟨y0, y1, y2, n, _, hlen, h0, h1, h2⟩ := trod_struct3 Tryz.underlying66 ht
    rw [cellsStep] at hlen
    obtain ⟨_, _, hat⟩ := World.cells?_some hc
    match cs', hlen with
    | [c0, c1, c2], _ =>
      simp only [cellsInt, cellsString, cellsStrings] at h0 h1 h2
      obtain ⟨z, hz, _, _⟩ := DataW.trod_int Tryz.underlying3 h0
      obtain ⟨t, ht1, _, _⟩ := DataW.trod_string Tryz.underlying9 h1
      simp at hz ht1
      subst hz ht1
      have k0 := hat 0 (by omega)
      have k1 := hat 1 (by omega)
      have k2 := hat 2 (by omega)
      rw [add_add] at k0 k1 k2
      simp at k0 k1 k2
      rcases open_strings Tryz.underlying35 Tryz.underlying9 cellsString h2 with ⟨hcs, _⟩ | ⟨b, bl', bc, ss, hcs, _, hbl, hbm, hbz, _, hcell, _⟩
      · simp at hcs
        subst hcs
        exact ⟨(⟨z, t, []⟩, none, 0, 0), k0, k1, k2, Rd.nil _ _ _⟩
      · simp at hcs
        subst hcs
        exact ⟨(⟨z, t, ss.take bl'⟩, some b, bl', bc), k0, k1, k2, strs_in hbl hbm (by simpa using hbz) hcell⟩
  haveI : Inhabited (Step × (Option Addr × Nat × Nat)) := ⟨(⟨0, ⟨#[]⟩, []⟩, none, 0, 0)⟩
  obtain ⟨F, hF⟩ := choose_lt each
  refine ⟨some a, len, cap, (List.range len).map fun i => (F i).1, rfl, ?_, fun e => by cases e⟩
  let V : Nat → Value := fun j => if j % 3 = 0 then .int .i64 (F (j / 3)).1.kind else if j % 3 = 1 then .string (F (j / 3)).1.text else .slice (F (j / 3)).2.1 (F (j / 3)).2.2.1 (F (j / 3)).2.2.2
  have hV : ∀ j, j < len * 3 → w.cell? (a.add j) = some (V j) := by
    intro j hj
    obtain ⟨h0, h1, h2, _⟩ := hF (j / 3) (by omega)
    show _ = some (if j % 3 = 0 then _ else if j % 3 = 1 then _ else _)
    by_cases r0 : j % 3 = 0
    · rw [if_pos r0, ← h0]; congr 2; omega
    · by_cases r1 : j % 3 = 1
      · rw [if_neg r0, if_pos r1, ← h1]; congr 2; omega
      · rw [if_neg r0, if_neg r1, ← h2]; congr 2; omega
  have hat : ∀ j, j < len * 3 → ((List.range (len * 3)).map V)[j]? = some (V j) := by
    intro j hj; rw [List.getElem?_map, List.getElem?_range hj]; rfl
  refine ⟨(List.range (len * 3)).map V, ⟨by simp, hl, by unfold maxLen at hm; omega, fun hp => ⟨a, rfl, ?_, fun j u hu => ?_⟩⟩, by simp, fun k s hs => ?_⟩
  · have := block_lt (hV 0 (by omega)); rw [add_block] at this; exact this
  · have hj : j < len * 3 := by
      have := (List.getElem?_eq_some_iff.1 hu).1
      simpa using this
    rw [hat j hj] at hu
    rw [hV j hj, hu]
  · have hk : k < len := by
      have := (List.getElem?_eq_some_iff.1 hs).1
      simpa using this
    rw [List.getElem?_map, List.getElem?_range hk] at hs
    simp at hs
    subst hs
    obtain ⟨_, _, _, h3⟩ := hF k (by omega)
    refine ⟨_, _, _, ?_, ?_, ?_, h3⟩
    · rw [hat _ (by omega)]
      show some (if 3 * k % 3 = 0 then _ else if 3 * k % 3 = 1 then _ else _) = _
      rw [if_pos (by omega), show 3 * k / 3 = k by omega]
    · rw [hat _ (by omega)]
      show some (if (3 * k + 1) % 3 = 0 then _ else if (3 * k + 1) % 3 = 1 then _ else _) = _
      rw [if_neg (by omega), if_pos (by omega), show (3 * k + 1) / 3 = k by omega]
    · rw [hat _ (by omega)]
      show some (if (3 * k + 2) % 3 = 0 then _ else if (3 * k + 2) % 3 = 1 then _ else _) = _
      rw [if_neg (by omega), if_neg (by omega), show (3 * k + 2) / 3 = k by omega]
end Go.Proofs.YtdkpacgbniclhaaGreatDoor
