/- Plain words on memory: what a slice of pieces that came in reads as, in the words of the walks. -/
import Derived.Test.YtlclmpiocbkabaaDoorOpen
import Derived.Test.YtlclmpiocbkabaaDoorPieces
import Derived.Deep.Strs
import Derived.ChangeSlices
import Derived.ChangeSame
namespace Go.Proofs.YtlclmpiocbkabaaDoor
open Go.RowKit Go.ChangeShapes Go.Deep

theorem cellsPiece : Tryd.prog.cellsOf 47 = 2 := by kernel_rfl
theorem cellsIntP : Tryd.prog.cellsOf 3 = 1 := by kernel_rfl
theorem cellsStringP : Tryd.prog.cellsOf 9 = 1 := by kernel_rfl
theorem cellsIntsP : Tryd.prog.cellsOf 25 = 1 := by kernel_rfl

set_option maxRecDepth 100000 in
theorem pieces_in {H : Type} {enc : TypeId × Value → H} {w : World} {fuel : Nat} {cs : List Value} {x : DataW H × List MemPlace} (h : DataW.trod enc Tryd.prog w 0 (fun _ => true) true fuel 22 cs = some x) :
    ∃ A n c l, cs = [.slice A n c] ∧ PiecesAt w w.heap.size A n c l ∧ (A = none → n = 0 ∧ c = 0) := by
  rcases open_slice Tryd.underlying22 h with ⟨rfl, _⟩ | ⟨a, len, cap, m, fu, D, Pl, rfl, _, hl, hm, hmm, _, hi⟩
  · exact ⟨none, 0, 0, [], rfl, ⟨[], Rd.nil _ _ _, rfl, fun k s hs => by simp at hs⟩, fun _ => ⟨rfl, rfl⟩⟩
  simp only [if_true] at hmm
  rw [cellsPiece] at hi
  have each : ∀ i, i < m → ∃ f : Piece × (Option Addr × Nat × Nat), w.cell? (a.add (i * 2)) = some (.slice f.2.1 f.2.2.1 f.2.2.2) ∧ w.cell? (a.add (i * 2 + 1)) = some (.string f.1.text) ∧ IntsAt w w.heap.size f.2.1 f.2.2.1 f.2.2.2 f.1.codes := by
    intro i him
    obtain ⟨cs', hc, ht⟩ := hi i him
    obtain ⟨y0, y1, n, _, hlen, h0, h1⟩ := trod_struct2 Tryd.underlying47 ht
    rw [cellsPiece] at hlen
    obtain ⟨_, _, hat⟩ := World.cells?_some hc
    match cs', hlen with
    | [c0, c1], _ =>
      simp only [cellsStringP, cellsIntsP] at h0 h1
      obtain ⟨t, ht1, _, _⟩ := DataW.trod_string Tryd.underlying9 h1
      simp at ht1
      subst ht1
      have k0 := hat 0 (by omega)
      have k1 := hat 1 (by omega)
      rw [add_add] at k0 k1
      simp at k0 k1
      rcases open_ints Tryd.underlying25 Tryd.underlying3 cellsIntP h0 with ⟨hcs, _⟩ | ⟨b, bl', bc, ss, hcs, _, hbl, hbm, hbz, _, hcell, _⟩
      · simp at hcs
        subst hcs
        exact ⟨(⟨[], t⟩, none, 0, 0), k0, k1, Rd.nil _ _ _⟩
      · simp at hcs
        subst hcs
        exact ⟨(⟨ss.take bl', t⟩, some b, bl', bc), k0, k1, ints_in hbl hbm (by simpa using hbz) hcell⟩
  haveI : Inhabited (Piece × (Option Addr × Nat × Nat)) := ⟨(⟨[], ⟨#[]⟩⟩, none, 0, 0)⟩
  obtain ⟨F, hF⟩ := choose_lt each
  refine ⟨some a, len, cap, (List.range len).map fun i => (F i).1, rfl, ?_, fun e => by cases e⟩
  let V : Nat → Value := fun j => if j % 2 = 0 then .slice (F (j / 2)).2.1 (F (j / 2)).2.2.1 (F (j / 2)).2.2.2 else .string (F (j / 2)).1.text
  have hV : ∀ j, j < len * 2 → w.cell? (a.add j) = some (V j) := by
    intro j hj
    obtain ⟨h0, h1, _⟩ := hF (j / 2) (by omega)
    show _ = some (if j % 2 = 0 then _ else _)
    by_cases r0 : j % 2 = 0
    · rw [if_pos r0, ← h0]; congr 2; omega
    · rw [if_neg r0, ← h1]; congr 2; omega
  have hat : ∀ j, j < len * 2 → ((List.range (len * 2)).map V)[j]? = some (V j) := by
    intro j hj; rw [List.getElem?_map, List.getElem?_range hj]; rfl
  refine ⟨(List.range (len * 2)).map V, ⟨by simp, hl, by unfold maxLen at hm; omega, fun hp => ⟨a, rfl, ?_, fun j u hu => ?_⟩⟩, by simp, fun k s hs => ?_⟩
  · have := block_lt (hV 0 (by omega)); rw [add_block] at this; exact this
  · have hj : j < len * 2 := by
      have := (List.getElem?_eq_some_iff.1 hu).1
      simpa using this
    rw [hat j hj] at hu
    rw [hV j hj, hu]
  · have hk : k < len := by
      have := (List.getElem?_eq_some_iff.1 hs).1
      simpa using this
    rw [List.getElem?_map, List.getElem?_range hk] at hs
    simp at hs
    subst hs
    obtain ⟨_, _, h3⟩ := hF k (by omega)
    refine ⟨_, _, _, ?_, ?_, h3⟩
    · rw [hat _ (by omega)]
      show some (if 2 * k % 2 = 0 then _ else _) = _
      rw [if_pos (by omega), show 2 * k / 2 = k by omega]
    · rw [hat _ (by omega)]
      show some (if (2 * k + 1) % 2 = 0 then _ else _) = _
      rw [if_neg (by omega), show (2 * k + 1) / 2 = k by omega]
end Go.Proofs.YtlclmpiocbkabaaDoor
