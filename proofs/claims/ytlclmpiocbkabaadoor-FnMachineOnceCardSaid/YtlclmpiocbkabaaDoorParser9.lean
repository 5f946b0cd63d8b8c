/- Walk of the parser's ParseString. Conditions: as it says. -/
import Derived.Test.YtlclmpiocbkabaaDoorParser8
import Derived.Test.YtlclmpiocbkabaaDoorMachSize
namespace Go.Proofs.YtlclmpiocbkabaaDoor
open Go.RowKit
set_option linter.unusedVariables false
set_option linter.unusedSimpArgs false

/-- The parser where no block but one that is none of its own is turned. -/
theorem PAt.apart {w w2 : World} {B p K : Nat} {s : PS} {t : ByteArray} {q : Nat} (h : PAt w B p s) (hK : w.heap[K]? = some (.stringIter t q)) (ho : ∀ j, j ≠ K → w2.heap[j]? = w.heap[j]?) : PAt w2 B p s := by
  obtain ⟨vm, vb, h1, h2, h3⟩ := h.ex
  have hp : p ≠ K := by rintro rfl; rw [hK] at h1; cases h1
  refine ⟨h.base, vm, vb, (ho p hp).trans h1, ?_, ?_⟩
  · rcases h2 with h2 | ⟨b, e, hB, hs⟩
    · exact Or.inl h2
    · refine Or.inr ⟨b, e, hB, hs.same (ho b ?_)⟩
      rintro rfl
      obtain ⟨es, clock, hb, _⟩ := hs
      rw [hK] at hb
      cases hb
  · obtain ⟨g1, g2⟩ := h3
    refine ⟨g1, ?_⟩
    rcases g2 with g2 | ⟨g, cap, cur, rfl, hg, hh, r⟩
    · exact Or.inl g2
    · refine Or.inr ⟨g, cap, cur, rfl, hg, (ho g ?_).trans hh, r⟩
      rintro rfl
      rw [hK] at hh
      cases hh
theorem Kept.apart {w w' w2 : World} {p K : Nat} (h : Kept p w w') (hw : w.heap.size ≤ K) (ho : ∀ j, j ≠ K → w2.heap[j]? = w'.heap[j]?) : Kept p w w2 := fun k o h1 h2 h3 h4 => by
  have hk := (Array.getElem?_eq_some_iff.1 h1).1
  exact (ho k (by omega)).trans (h k o h1 h2 h3 h4)

set_option maxRecDepth 100000 in
set_option maxHeartbeats 3000000 in
theorem pstr_any (B p : Nat) (s : PS) (t : ByteArray) (w : World) (h : Ready w B p s) (hs : s.codes.length ≤ 10000) (ht : t.size ≤ 500) (hr : Rising s.codes) (h64 : ∀ c ∈ (consumeAll s.reset (runes t)).codes, In64 c) :
    Calls Tryd.prog 27 #[.pointer (some ⟨p, 0, none⟩), .string t] w fun e w' => e = .returned (.string ⟨(seqP (consumeAll s.reset (runes t)).codes).toArray⟩) ∧ Pdone w w' B p (consumeAll s.reset (runes t)) := by
  obtain ⟨vm, vb, hb, hv, ho⟩ := h.at_.ex
  have hB := h.at_.base
  have hp := h.at_.lt
  have HRD := Lib.hid h
  have H64 := Lib.hid h64
  have HRI := Lib.hid hr
  have hf1 := frozen_of_row w p 1 _ _ hb
  have hf2 := frozen_of_row w p 2 _ _ hb
  have hf3 := frozen_of_row w p 3 _ _ hb
  have hc1 : w.cell? ⟨p, 1, none⟩ = some (.bool s.inE) := cell_of_row w p 1 _ _ _ hb
  have hc2 : w.cell? ⟨p, 2, none⟩ = some (.int .i64 s.kind) := cell_of_row w p 2 _ _ _ hb
  have hc3 : w.cell? ⟨p, 3, none⟩ = some vb := cell_of_row w p 3 _ _ _ hb
  have fin : ∀ v, OwnBytes w B 5 v [] → Pdone w (((w.setCell ⟨p, 3, none⟩ v).setCell ⟨p, 1, none⟩ (.bool false)).setCell ⟨p, 2, none⟩ (.int .i64 0)) B p s.reset := by
    intro v hv0
    have b1 : (w.setCell ⟨p, 3, none⟩ v).heap[p]? = some (.cells (pcells vm s.inE s.kind v) 64 (0, 0)) := heap_setCell_same w p 3 _ _ _ hb
    have b2 : ((w.setCell ⟨p, 3, none⟩ v).setCell ⟨p, 1, none⟩ (.bool false)).heap[p]? = some (.cells (pcells vm false s.kind v) 64 (0, 0)) := heap_setCell_same _ p 1 _ _ _ b1
    have b3 : (((w.setCell ⟨p, 3, none⟩ v).setCell ⟨p, 1, none⟩ (.bool false)).setCell ⟨p, 2, none⟩ (.int .i64 0)).heap[p]? = some (.cells (pcells vm false 0 v) 64 (0, 0)) := heap_setCell_same _ p 2 _ _ _ b2
    exact ⟨⟨hB, vm, v, b3, ((hv.set hb).set b1).set b2, bytes_set (bytes_set (bytes_set hv0 hb) b1) b2⟩, (((Below.refl B w).setCell hB _).setCell hB _).setCell hB _, (kept_set.trans kept_set).trans kept_set⟩
  have HF := Lib.hid fin
  clear fin
  rcases ho.2 with ⟨hvb, h0⟩ | ⟨g, cap, cur, hvb, hg, hh, hn, hm, _⟩
  · subst hvb
    have h1 : OwnBytes w B 5 (.slice none 0 0) [] := World.ownsRow_nil _ _ _ _
    have HX := Lib.hid (HF.out _ h1)
    clear hb hv ho HF h hr h64
    go_enter Tryd.func27, Tryd.ntmps27
    go_wp2
    obtain ⟨w1, hw1⟩ : ∃ w1, w1 = ((w.setCell ⟨p, 3, none⟩ (.slice none 0 0)).setCell ⟨p, 1, none⟩ (.bool false)).setCell ⟨p, 2, none⟩ (.int .i64 0) := ⟨_, rfl⟩
    have hX := HX.out
    have hKs : w1.heap.size = w.heap.size := by rw [hw1]; simp [World.setCell]
    rw [← hw1] at hX ⊢
    clear hw1 HX
    have hBw := HRD.out.size
    go_loopw [6] (fun v6 wr => ∃ (pos : Nat) (s' : PS), wr.heap[w.heap.size]? = some (.stringIter t pos) ∧ pos ≤ t.size ∧ PAt wr B p s' ∧ Below B w wr ∧ Kept p w wr ∧ Hid (consumeAll s.reset (runes t) = consumeAll s' (runesFrom t pos)) ∧ Hid (weight s' ≤ 10000 + 10 * pos ∧ s'.buf.length ≤ 4 * pos ∧ Rising s'.codes)) (fun _ wr => t.size - wr.iterPos w.heap.size)
    case atStart =>
      have hit := World.iter_heap w1 t 0
      rw [hKs] at hit
      exact ⟨0, s.reset, hit, Nat.zero_le _, hX.1.below ((Below.refl _ w1).alloc (Nat.le_refl _) (.stringIter t 0)), hX.2.1.alloc (by omega) (.stringIter t 0), hX.2.2.trans (Kept.below ((Below.refl _ w1).alloc (Nat.le_refl _) (.stringIter t 0))), Lib.hid rfl, Lib.hid ⟨by show s.codes.length + 2 * 0 ≤ _; omega, Nat.zero_le _, HRI.out⟩⟩
    case round =>
      obtain ⟨pos, s', hit, hps, hP, hbw, hkp, HC, HW⟩ := hrel
      by_cases hlt : pos < t.size
      · obtain ⟨r, pos2, wr2, hr2, h0, h1, hl, hle, hit2, hbw2, hsz, hoth, hnx⟩ := iter_next (P := Tryd.prog) hit hlt hbw hBw
        have hP2 := hP.apart hit hoth
        have hkp2 := hkp.apart (Nat.le_refl _) hoth
        have HN := Lib.hid (show consumeAll s' (runesFrom t pos) = consumeAll (consume s' r) (runesFrom t pos2) by rw [hr2]; rfl)
        have HM := Lib.hid (show ∀ w1 : World, w1.heap[w.heap.size]? = some (.stringIter t pos2) → t.size - w1.iterPos w.heap.size < t.size - wr.iterPos w.heap.size by
          intro w1 h; have e1 := iterPos_of hit; have e2 := iterPos_of h; omega)
        have HR2 : Ready wr2 B p s' := ⟨hP2, HRD.out.tabs.then hbw2, by have := hbw2.size; omega, by have := HW.out.2.1; omega, by have := HW.out.1; unfold weight at this; omega⟩
        have HRR := Lib.hid HR2
        clear hr2 hbw hkp hoth hP hsz HR2 hP2 hit
        go_wp2_with fail
        refine (consume_any B p s' r _ HRR.out ⟨h0, h1⟩).mono ?_
        rintro e w4 ⟨rfl, hP4, hb4, hk4⟩
        have hit4 := hk4 _ _ hit2 (by rintro rfl; omega) (by intro c fz e; cases e) (by intro c cl e; cases e)
        have hbw4 := hbw2.trans hb4
        have hkp4 := hkp2.trans hk4
        clear hb4 hk4 hbw2 hkp2 hit2 hnx
        go_wp2
        go_roundw
        case rel =>
          refine ⟨pos2, consume s' r, hit4, hle, hP4, hbw4, hkp4, Lib.hid (by rw [HC.out, HN.out]), Lib.hid ⟨?_, ?_, rising_consume HW.out.2.2 r⟩⟩
          · have := (weight_consume s' r).1; have := HW.out.1; omega
          · have := (weight_consume s' r).2; have := HW.out.2.1; omega
        case measure => exact HM.out _ hit4
      · have HE := Lib.hid (show consumeAll s.reset (runes t) = s' by rw [HC.out, runesFrom_end hlt]; rfl)
        have hnx : ∀ ty, (Instr.next (.pointer (some ⟨w.heap.size, 0, none⟩)) true ty).run Tryd.prog wr = _ := fun ty => Lib.run_next_end_at wr w.heap.size t pos ty hit hlt
        have H6 := Lib.hid (show ∀ c ∈ s'.codes, In64 c by rw [← HE.out]; exact H64.out)
        have HL := Lib.hid (show s'.codes.length ≤ 100000 by have := HW.out.1; unfold weight at this; omega)
        have HP := Lib.hid hP
        have HB := Lib.hid hbw
        have HKP := Lib.hid hkp
        clear hP hbw hkp HC hit
        go_wp2_with fail
        refine (pseq_any B p s' _ HP.out HW.out.2.2 HL.out H6.out).mono ?_
        rintro e w5 ⟨rfl, hb5⟩
        have HPD := Lib.hid (show Pdone w w5 B p s' from ⟨HP.out.below hb5, HB.out.trans (hb5.mono (by have := HB.out.size; omega)), HKP.out.trans (Kept.below hb5)⟩)
        go_wp2
        go_ret
        rw [HE.out]
        exact ⟨rfl, HPD.out⟩
  · subst hvb
    obtain ⟨n, hnn⟩ : ∃ n, n = s.buf.length := ⟨_, rfl⟩
    rw [← hnn] at hc3
    have HX := Lib.hid (HF.out _ (bytes_none ho))
    have hcap : n ≤ cap := by rw [hnn]; exact hn
    clear hb hv ho HF h hn hnn hr h64 hh
    go_enter Tryd.func27, Tryd.ntmps27
    go_wp2
    obtain ⟨w1, hw1⟩ : ∃ w1, w1 = ((w.setCell ⟨p, 3, none⟩ (.slice (some ⟨g, 0, none⟩) 0 cap)).setCell ⟨p, 1, none⟩ (.bool false)).setCell ⟨p, 2, none⟩ (.int .i64 0) := ⟨_, rfl⟩
    have hX := HX.out
    have hKs : w1.heap.size = w.heap.size := by rw [hw1]; simp [World.setCell]
    rw [← hw1] at hX ⊢
    clear hw1 HX
    have hBw := HRD.out.size
    go_loopw [6] (fun v6 wr => ∃ (pos : Nat) (s' : PS), wr.heap[w.heap.size]? = some (.stringIter t pos) ∧ pos ≤ t.size ∧ PAt wr B p s' ∧ Below B w wr ∧ Kept p w wr ∧ Hid (consumeAll s.reset (runes t) = consumeAll s' (runesFrom t pos)) ∧ Hid (weight s' ≤ 10000 + 10 * pos ∧ s'.buf.length ≤ 4 * pos ∧ Rising s'.codes)) (fun _ wr => t.size - wr.iterPos w.heap.size)
    case atStart =>
      have hit := World.iter_heap w1 t 0
      rw [hKs] at hit
      exact ⟨0, s.reset, hit, Nat.zero_le _, hX.1.below ((Below.refl _ w1).alloc (Nat.le_refl _) (.stringIter t 0)), hX.2.1.alloc (by omega) (.stringIter t 0), hX.2.2.trans (Kept.below ((Below.refl _ w1).alloc (Nat.le_refl _) (.stringIter t 0))), Lib.hid rfl, Lib.hid ⟨by show s.codes.length + 2 * 0 ≤ _; omega, Nat.zero_le _, HRI.out⟩⟩
    case round =>
      obtain ⟨pos, s', hit, hps, hP, hbw, hkp, HC, HW⟩ := hrel
      by_cases hlt : pos < t.size
      · obtain ⟨r, pos2, wr2, hr2, h0, h1, hl, hle, hit2, hbw2, hsz, hoth, hnx⟩ := iter_next (P := Tryd.prog) hit hlt hbw hBw
        have hP2 := hP.apart hit hoth
        have hkp2 := hkp.apart (Nat.le_refl _) hoth
        have HN := Lib.hid (show consumeAll s' (runesFrom t pos) = consumeAll (consume s' r) (runesFrom t pos2) by rw [hr2]; rfl)
        have HM := Lib.hid (show ∀ w1 : World, w1.heap[w.heap.size]? = some (.stringIter t pos2) → t.size - w1.iterPos w.heap.size < t.size - wr.iterPos w.heap.size by
          intro w1 h; have e1 := iterPos_of hit; have e2 := iterPos_of h; omega)
        have HR2 : Ready wr2 B p s' := ⟨hP2, HRD.out.tabs.then hbw2, by have := hbw2.size; omega, by have := HW.out.2.1; omega, by have := HW.out.1; unfold weight at this; omega⟩
        have HRR := Lib.hid HR2
        clear hr2 hbw hkp hoth hP hsz HR2 hP2 hit
        go_wp2_with fail
        refine (consume_any B p s' r _ HRR.out ⟨h0, h1⟩).mono ?_
        rintro e w4 ⟨rfl, hP4, hb4, hk4⟩
        have hit4 := hk4 _ _ hit2 (by rintro rfl; omega) (by intro c fz e; cases e) (by intro c cl e; cases e)
        have hbw4 := hbw2.trans hb4
        have hkp4 := hkp2.trans hk4
        clear hb4 hk4 hbw2 hkp2 hit2 hnx
        go_wp2
        go_roundw
        case rel =>
          refine ⟨pos2, consume s' r, hit4, hle, hP4, hbw4, hkp4, Lib.hid (by rw [HC.out, HN.out]), Lib.hid ⟨?_, ?_, rising_consume HW.out.2.2 r⟩⟩
          · have := (weight_consume s' r).1; have := HW.out.1; omega
          · have := (weight_consume s' r).2; have := HW.out.2.1; omega
        case measure => exact HM.out _ hit4
      · have HE := Lib.hid (show consumeAll s.reset (runes t) = s' by rw [HC.out, runesFrom_end hlt]; rfl)
        have hnx : ∀ ty, (Instr.next (.pointer (some ⟨w.heap.size, 0, none⟩)) true ty).run Tryd.prog wr = _ := fun ty => Lib.run_next_end_at wr w.heap.size t pos ty hit hlt
        have H6 := Lib.hid (show ∀ c ∈ s'.codes, In64 c by rw [← HE.out]; exact H64.out)
        have HL := Lib.hid (show s'.codes.length ≤ 100000 by have := HW.out.1; unfold weight at this; omega)
        have HP := Lib.hid hP
        have HB := Lib.hid hbw
        have HKP := Lib.hid hkp
        clear hP hbw hkp HC hit
        go_wp2_with fail
        refine (pseq_any B p s' _ HP.out HW.out.2.2 HL.out H6.out).mono ?_
        rintro e w5 ⟨rfl, hb5⟩
        have HPD := Lib.hid (show Pdone w w5 B p s' from ⟨HP.out.below hb5, HB.out.trans (hb5.mono (by have := HB.out.size; omega)), HKP.out.trans (Kept.below hb5)⟩)
        go_wp2
        go_ret
        rw [HE.out]
        exact ⟨rfl, HPD.out⟩
end Go.Proofs.YtlclmpiocbkabaaDoor
