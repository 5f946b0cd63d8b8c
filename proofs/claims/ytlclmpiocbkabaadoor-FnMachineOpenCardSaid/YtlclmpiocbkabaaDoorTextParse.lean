/- Walk of impl.TextParse: the states of a new parser behind each step. Conditions: the library's tables as they are laid; the parser stays small at each step. -/
import Derived.Test.YtlclmpiocbkabaaDoorStates
namespace Go.Proofs.YtlclmpiocbkabaaDoor
open Go.RowKit
set_option linter.unusedVariables false
set_option linter.unusedSimpArgs false

def EOk (x : EStep) : Prop := (x.kind = 0 ∧ 0 ≤ x.rune ∧ x.rune ≤ 1114111) ∨ (x.kind = 1 ∧ x.text.size ≤ 500)
theorem Fine.ready {n : Nat} {w : World} {B p : Nat} {s : PS} (h : Fine n s) (hn : n ≤ 90000) (hP : PAt w B p s) (hT : TabsB B w) (hB : B ≤ w.heap.size) : Ready w B p s :=
  ⟨hP, hT, hB, h.buf, by have := h.few; unfold weight at this; omega⟩

set_option maxRecDepth 100000 in
set_option maxHeartbeats 4000000 in
theorem textParse_any (A : Option Addr) (n c : Nat) (L : List EStep) (w : World) (h : EStepsAt w w.heap.size A n c L) (hT : TabsB w.heap.size w) (hn : n ≤ 1000000) (hX : ∀ x ∈ L, EOk x) (hF : ∀ k, k ≤ n → Fine 9000 (runP fresh (L.take k))) :
    Calls Tryd.prog 13 #[.slice A n c] w fun e w' => ∃ v, e = .returned v ∧ OwnStates w' w.heap.size v n (statesOf fresh L) ∧ Below w.heap.size w w' := by
  obtain ⟨i0, hi, hz0, hz1, hz2⟩ := info_parts infoEscState
  have HT := Lib.hid hT
  have HX := Lib.hid hX
  have HF := Lib.hid hF
  have HL := Lib.hid h.2
  have h63 : n ≤ 9223372036854775807 := by omega
  clear hT hX hF
  go_enter Tryd.func13, Tryd.ntmps13
  go_wp2
  go_loopw [4, 11] (fun v4 v11 wr => ∃ (m : Nat) (s : PS) (sts : List EState), m ≤ n ∧ v11 = .int .i64 m ∧ PAt wr w.heap.size w.heap.size s ∧ OwnStates wr w.heap.size v4 m sts ∧ Below w.heap.size w wr ∧ Hid (s = runP fresh (L.take m) ∧ sts = statesOf fresh (L.take m))) (fun _ v11 _ => n - (intOf v11).toNat)
  case atStart =>
    refine ⟨0, fresh, [], Nat.zero_le _, rfl, ⟨Nat.le_refl _, .map none, .slice none 0 0, ?_, Or.inl ⟨rfl, rfl⟩, World.ownsRow_nil _ _ _ _⟩, ?_, ((Below.refl _ w).alloc (Nat.le_refl _) _).alloc (by simp) _, Lib.hid ⟨by simp [runP], by simp [statesOf]⟩⟩
    · exact (heap_alloc_old _ _ (by simp)).trans (heap_alloc_new w _)
    · refine ⟨[], ⟨rfl, Or.inr ⟨w.heap.size + 1, 0, #[], by simp, by omega, ?_, Nat.le_refl _, Nat.zero_le _, rfl, rfl⟩⟩, rfl, fun k s hk => by simp at hk⟩
      have := heap_alloc_new (w.alloc (.cells (pcells (.map none) false 0 (.slice none 0 0)) 64)) (.cells #[] 39)
      simpa using this
  case round =>
    obtain ⟨m, s, sts, hm, rfl, hP, hown, hbw, HS⟩ := hrel
    have hsz := hbw.size
    by_cases hlt : m < n
    · obtain ⟨ad, x, rfl, _, hy, hc0, hc1, hc2⟩ := (h.below hbw).at_ hlt
      have hk1 : (m : Int) < (n : Int) := by omega
      have hw1 : wrap64 ((m : Int) + 1) = (m : Int) + 1 := IntWalk.wrap64_in _ ⟨by omega, by omega⟩
      have HY := Lib.hid hy
      have hF1 := HF.out m hm
      have hF2 := HF.out (m + 1) (by omega)
      have htk : L.take (m + 1) = L.take m ++ [x] := take_step hy
      rw [htk, runP_snoc, ← HS.out.1] at hF2
      rw [← HS.out.1] at hF1
      have HF1 := Lib.hid hF1
      have HST := Lib.hid (show stepP s x = runP fresh (L.take (m + 1)) ∧ sts ++ [stOf (stepP s x) (toldP s x)] = statesOf fresh (L.take (m + 1)) by
        rw [htk, runP_snoc, statesOf_snoc, ← HS.out.1, ← HS.out.2]; exact ⟨rfl, rfl⟩)
      have hxo := HX.out x (List.mem_of_getElem? hy)
      clear hy hF1 htk
      obtain ⟨kd, r, tx⟩ := x
      unfold EOk at hxo
      dsimp only at hxo hc0 hc1 hc2
      obtain ⟨s2, hs2⟩ : ∃ s2, s2 = stepP s ⟨kd, r, tx⟩ := ⟨_, rfl⟩
      obtain ⟨td, htd⟩ : ∃ td, td = toldP s ⟨kd, r, tx⟩ := ⟨_, rfl⟩
      rw [← hs2] at hF2
      rw [← hs2, ← htd] at HST
      have HF2 := Lib.hid hF2
      have HS2 := Lib.hid hs2
      have HTD := Lib.hid htd
      have hb1 := (Below.refl wr.heap.size wr).alloc (Nat.le_refl _) (.cells #[.int .i64 kd, .int .i32 r, .string tx] 36)
      have hbw1 := hbw.trans (hb1.mono hsz)
      have hP1 := hP.below hb1
      have hown1 := hown.below hb1
      have HRR := Lib.hid (HF1.out.ready (by omega) hP1 (HT.out.then hbw1) hbw1.size)
      have HN := Lib.hid (show n ≤ 1000000 from hn)
      clear hF2 hs2 htd hP hown hbw hb1
      rcases hxo with ⟨rfl, hr0, hr1⟩ | ⟨rfl, htz⟩
      · have e2 : consume s r = s2 := by rw [HS2.out]; rfl
        have et : td = ⟨#[]⟩ := by rw [HTD.out]; rfl
        subst et
        have HE2 := Lib.hid e2
        clear e2
        go_wp2_with fail
        refine (consume_any w.heap.size w.heap.size s r _ HRR.out ⟨hr0, hr1⟩).mono ?_
        rintro e w4 ⟨rfl, hP4, hb4, hk4⟩
        rw [HE2.out] at hP4
        have hpb := HRR.out.at_.ex
        obtain ⟨vm, vb, hbp, _⟩ := hpb
        have hown4 := hown1.keptE (KeptE.kept hk4 hbp (by decide) (by decide)) (KeptE.kept hk4 hbp (by decide) (by decide))
        have hbw4 := hbw1.trans hb4
        have hl2 : s2.codes.length ≤ 9000 := by have := HF2.out.few; unfold weight at this; omega
        have HL2 := Lib.hid hl2
        clear hbp hown1 hbw1 hP1 hb4 hk4 HRR hl2
        go_wp2_with fail
        refine (inSeq_any w.heap.size w.heap.size s2 _ hP4).mono ?_
        rintro e w5 ⟨rfl, rfl⟩
        go_wp2_with fail
        refine (isOpen_any w.heap.size w.heap.size s2 _ hP4).mono ?_
        rintro e w5 ⟨rfl, rfl⟩
        go_wp2_with fail
        refine (pcodes_any w.heap.size w.heap.size s2 _ hP4 HF2.out.rising (by have := HL2.out; omega)).mono ?_
        rintro e w5 ⟨vc, rfl, hrow5, hb5⟩
        obtain ⟨A5, c5, rfl, _⟩ := own_rd hrow5
        have hP5 := hP4.below hb5
        have hown5 := hown4.below hb5
        have hbw5 := hbw4.trans (hb5.mono hbw4.size)
        have hrow5' := own_base hrow5 hbw4.size
        clear hP4 hown4 hb5 hrow5
        go_wp2_with fail
        refine (pseq_any w.heap.size w.heap.size s2 _ hP5 HF2.out.rising (by have := HL2.out; omega) HF2.out.wide).mono ?_
        rintro e w6 ⟨rfl, hb6⟩
        have hP6 := hP5.below hb6
        have hown6 := hown5.below hb6
        have hbw6 := hbw5.trans (hb6.mono hbw5.size)
        have hrow6 := own_below hrow5' hb6 (Nat.le_refl _)
        have hsz6 := hbw6.size
        clear hP5 hown5 hb6 hrow5' hbw5 hbw4
        obtain ⟨xs, hx1, hx2, hx3⟩ := hown6
        go_wp2_with (at_builtin; go_loud (refine wpList_append_own _ rfl _ _ 33 rfl w.heap.size 39 i0 (.agg #[.bool false, .bool false, .slice none 0 0, .string ⟨#[]⟩, .string ⟨#[]⟩]) 5 64 Tryd.underlying33 hi hz0 hz1 hz2 rfl (by decide) _ _ _ rfl (hx1.alloc _) ⟨w6.heap.size, 0, none⟩ 1 1 [.bool s2.inE, .bool (decide (0 < s2.codes.length)), .slice A5 s2.codes.length c5, .string ⟨(seqP s2.codes).toArray⟩, .string ⟨#[]⟩] rfl rfl (World.news_of_block (cs := #[.bool s2.inE, .bool (decide (0 < s2.codes.length)), .slice A5 s2.codes.length c5, .string ⟨(seqP s2.codes).toArray⟩, .string ⟨#[]⟩]) (heap_alloc_new _ _)) (by intro u hu; simp at hu; rcases hu with rfl | rfl | rfl | rfl | rfl <;> first | rfl | exact own_one hrow6) (by unfold maxLen; omega) (by omega) (by simp; omega) ?_))
        intro v' w7 hown7 hgrow _
        have hkI : KeptE 3 w6 w7 := (KeptE.below ((Below.refl _ w6).alloc (Nat.le_refl _) _)).trans (KeptE.grown (hx1.alloc _) hgrow (by decide))
        have hP7 : PAt w7 w.heap.size w.heap.size s2 := (hP6.below ((Below.refl _ w6).alloc (Nat.le_refl _) (.cells #[.bool s2.inE, .bool (decide (0 < s2.codes.length)), .slice A5 s2.codes.length c5, .string ⟨(seqP s2.codes).toArray⟩, .string ⟨#[]⟩] 39))).grown_other (hx1.alloc (.cells #[.bool s2.inE, .bool (decide (0 < s2.codes.length)), .slice A5 s2.codes.length c5, .string ⟨(seqP s2.codes).toArray⟩, .string ⟨#[]⟩] 39)) hgrow (by decide) (by decide)
        have hbw7 := (hbw6.alloc hsz6 (.cells #[.bool s2.inE, .bool (decide (0 < s2.codes.length)), .slice A5 s2.codes.length c5, .string ⟨(seqP s2.codes).toArray⟩, .string ⟨#[]⟩] 39)).grown hgrow (by simp; omega) (fun j hj => (World.ownsRow.lt hx1 _ hj).1)
        have hst7 : OwnStates w7 w.heap.size v' (m + 1) (sts ++ [stOf s2 ⟨#[]⟩]) := states_snoc hx2 hx1.1 hx3 hkI (own_keptE hrow6 hkI) hown7
        rw [HST.out.2] at hst7
        clear hx1 hx3 hown7 hgrow hkI hP6 hrow6 hbw6
        go_wp2
        go_roundw
        case rel => exact ⟨m + 1, s2, _, by omega, by go_num, hP7, hst7, hbw7, Lib.hid ⟨HST.out.1, rfl⟩⟩
        case measure => simp [intOf]; omega
      · have e2 : consumeAll s.reset (runes tx) = s2 := by rw [HS2.out]; rfl
        have et : td = ⟨(seqP s2.codes).toArray⟩ := by rw [HTD.out, HS2.out]; rfl
        subst et
        have HE2 := Lib.hid e2
        have hcl : s.codes.length ≤ 10000 := by have := HF1.out.few; unfold weight at this; omega
        have HCL := Lib.hid hcl
        have h64 : ∀ c ∈ (consumeAll s.reset (runes tx)).codes, In64 c := by rw [e2]; exact HF2.out.wide
        have H64 := Lib.hid h64
        clear e2 hcl h64
        go_wp2_with fail
        refine (pstr_any w.heap.size w.heap.size s tx _ HRR.out HCL.out htz HF1.out.rising H64.out).mono ?_
        rintro e w4 ⟨rfl, hP4, hb4, hk4⟩
        rw [HE2.out] at hP4 ⊢
        have hpb := HRR.out.at_.ex
        obtain ⟨vm, vb, hbp, _⟩ := hpb
        have hown4 := hown1.keptE (KeptE.kept hk4 hbp (by decide) (by decide)) (KeptE.kept hk4 hbp (by decide) (by decide))
        have hbw4 := hbw1.trans hb4
        have hl2 : s2.codes.length ≤ 9000 := by have := HF2.out.few; unfold weight at this; omega
        have HL2 := Lib.hid hl2
        clear hbp hown1 hbw1 hP1 hb4 hk4 HRR hl2
        go_wp2_with fail
        refine (inSeq_any w.heap.size w.heap.size s2 _ hP4).mono ?_
        rintro e w5 ⟨rfl, rfl⟩
        go_wp2_with fail
        refine (isOpen_any w.heap.size w.heap.size s2 _ hP4).mono ?_
        rintro e w5 ⟨rfl, rfl⟩
        go_wp2_with fail
        refine (pcodes_any w.heap.size w.heap.size s2 _ hP4 HF2.out.rising (by have := HL2.out; omega)).mono ?_
        rintro e w5 ⟨vc, rfl, hrow5, hb5⟩
        obtain ⟨A5, c5, rfl, _⟩ := own_rd hrow5
        have hP5 := hP4.below hb5
        have hown5 := hown4.below hb5
        have hbw5 := hbw4.trans (hb5.mono hbw4.size)
        have hrow5' := own_base hrow5 hbw4.size
        clear hP4 hown4 hb5 hrow5
        go_wp2_with fail
        refine (pseq_any w.heap.size w.heap.size s2 _ hP5 HF2.out.rising (by have := HL2.out; omega) HF2.out.wide).mono ?_
        rintro e w6 ⟨rfl, hb6⟩
        have hP6 := hP5.below hb6
        have hown6 := hown5.below hb6
        have hbw6 := hbw5.trans (hb6.mono hbw5.size)
        have hrow6 := own_below hrow5' hb6 (Nat.le_refl _)
        have hsz6 := hbw6.size
        clear hP5 hown5 hb6 hrow5' hbw5 hbw4
        obtain ⟨xs, hx1, hx2, hx3⟩ := hown6
        go_wp2_with (at_builtin; go_loud (refine wpList_append_own _ rfl _ _ 33 rfl w.heap.size 39 i0 (.agg #[.bool false, .bool false, .slice none 0 0, .string ⟨#[]⟩, .string ⟨#[]⟩]) 5 64 Tryd.underlying33 hi hz0 hz1 hz2 rfl (by decide) _ _ _ rfl (hx1.alloc _) ⟨w6.heap.size, 0, none⟩ 1 1 [.bool s2.inE, .bool (decide (0 < s2.codes.length)), .slice A5 s2.codes.length c5, .string ⟨(seqP s2.codes).toArray⟩, .string ⟨(seqP s2.codes).toArray⟩] rfl rfl (World.news_of_block (cs := #[.bool s2.inE, .bool (decide (0 < s2.codes.length)), .slice A5 s2.codes.length c5, .string ⟨(seqP s2.codes).toArray⟩, .string ⟨(seqP s2.codes).toArray⟩]) (heap_alloc_new _ _)) (by intro u hu; simp at hu; rcases hu with rfl | rfl | rfl | rfl | rfl <;> first | rfl | exact own_one hrow6) (by unfold maxLen; omega) (by omega) (by simp; omega) ?_))
        intro v' w7 hown7 hgrow _
        have hkI : KeptE 3 w6 w7 := (KeptE.below ((Below.refl _ w6).alloc (Nat.le_refl _) _)).trans (KeptE.grown (hx1.alloc _) hgrow (by decide))
        have hP7 : PAt w7 w.heap.size w.heap.size s2 := (hP6.below ((Below.refl _ w6).alloc (Nat.le_refl _) (.cells #[.bool s2.inE, .bool (decide (0 < s2.codes.length)), .slice A5 s2.codes.length c5, .string ⟨(seqP s2.codes).toArray⟩, .string ⟨(seqP s2.codes).toArray⟩] 39))).grown_other (hx1.alloc (.cells #[.bool s2.inE, .bool (decide (0 < s2.codes.length)), .slice A5 s2.codes.length c5, .string ⟨(seqP s2.codes).toArray⟩, .string ⟨(seqP s2.codes).toArray⟩] 39)) hgrow (by decide) (by decide)
        have hbw7 := (hbw6.alloc hsz6 (.cells #[.bool s2.inE, .bool (decide (0 < s2.codes.length)), .slice A5 s2.codes.length c5, .string ⟨(seqP s2.codes).toArray⟩, .string ⟨(seqP s2.codes).toArray⟩] 39)).grown hgrow (by simp; omega) (fun j hj => (World.ownsRow.lt hx1 _ hj).1)
        have hst7 : OwnStates w7 w.heap.size v' (m + 1) (sts ++ [stOf s2 ⟨(seqP s2.codes).toArray⟩]) := states_snoc hx2 hx1.1 hx3 hkI (own_keptE hrow6 hkI) hown7
        rw [HST.out.2] at hst7
        clear hx1 hx3 hown7 hgrow hkI hP6 hrow6 hbw6
        go_wp2
        go_roundw
        case rel => exact ⟨m + 1, s2, _, by omega, by go_num, hP7, hst7, hbw7, Lib.hid ⟨HST.out.1, rfl⟩⟩
        case measure => simp [intOf]; omega
    · have hmn : m = n := by omega
      subst hmn
      have HE := Lib.hid (show sts = statesOf fresh L by rw [HS.out.2, List.take_of_length_le (by rw [HL.out]; exact Nat.le_refl _)])
      go_wp2
      go_ret
      refine ⟨_, rfl, ?_, hbw⟩
      rw [← HE.out]
      exact hown
end Go.Proofs.YtlclmpiocbkabaaDoor
