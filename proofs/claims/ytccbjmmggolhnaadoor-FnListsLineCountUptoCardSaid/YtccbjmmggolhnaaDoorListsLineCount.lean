/- Walk of laws.FnListsLineCount: it answers true and writes nothing that was there. One condition: the list is small enough to be played. -/
import Derived.Test.YtccbjmmggolhnaaDoorLt
import Derived.Test.YtccbjmmggolhnaaDoorLtSize
import Derived.Test.YtccbjmmggolhnaaDoorListMd
import Derived.Deep.RegionHeld3
import Derived.Deep.QuietTactic
import Derived.BigQuiet
import Derived.StillTailTactics
namespace Go.Proofs.YtccbjmmggolhnaaDoor
open Go.RowKit
set_option linter.unusedVariables false

theorem flatI_at {l : List (ByteArray × Nat)} : ∀ {k : Nat} {x : ByteArray × Nat}, l[k]? = some x → (flatI l)[2 * k]? = some (.string x.1) ∧ (flatI l)[2 * k + 1]? = some (.int .i64 x.2) := by
  induction l with
  | nil => intro k x h; simp at h
  | cons y l ih =>
    intro k x h
    match k, h with
    | 0, h => simp at h; subst h; exact ⟨rfl, rfl⟩
    | k + 1, h =>
      have h2 := ih (k := k) (x := x) (by simpa using h)
      show ((.string y.1 :: .int .i64 y.2 :: flatI l : List Value))[2 * (k + 1)]? = _ ∧ ((.string y.1 :: .int .i64 y.2 :: flatI l : List Value))[2 * (k + 1) + 1]? = _
      rw [show 2 * (k + 1) = 2 * k + 1 + 1 by omega, List.getElem?_cons_succ, List.getElem?_cons_succ, List.getElem?_cons_succ, List.getElem?_cons_succ]
      exact h2
theorem OwnItems.at_ {w : World} {B : Nat} {v : Value} {l : List (ByteArray × Nat)} (h : OwnItems w B v l) : ∃ A c, v = .slice A l.length c ∧ ItemsAt w w.heap.size A l.length c l := by
  obtain ⟨A, c, hv, hr⟩ := own_rd h
  exact ⟨A, c, hv, _, hr, rfl, fun k x hx => flatI_at hx⟩
theorem starMd_facts : ∀ r ∈ runes (starSt ⟨#[32, 32]⟩ ⟨#[60, 98, 114, 47, 62]⟩).vert, r ≠ 10 ∧ wideB r = false := by
  intro r hr
  have e : runes (starSt ⟨#[32, 32]⟩ ⟨#[60, 98, 114, 47, 62]⟩).vert = [32, 32] := by
    show runes ⟨[32, 32].toArray⟩ = _
    rw [runes_mk [32, 32] (by decide)]
    rfl
  rw [e] at hr
  simp at hr
  subst hr
  decide
theorem starMd_small : styleSmall (starSt ⟨#[32, 32]⟩ ⟨#[60, 98, 114, 47, 62]⟩) := ⟨rfl, by decide, by decide, by decide, by decide, by decide, by decide, by decide, by decide⟩
theorem md_same {l : List Step} (hr : rightB l = true) : drawnT (starSt ⟨#[32, 32]⟩ ⟨#[60, 98, 114, 47, 62]⟩) (played l) = drawD mdStyle (played l) := by
  rw [drawn_eq starMd_facts (Or.inr (by decide)) (right_simple hr)]
  rfl
def countS (l : List (ByteArray × Nat)) : Nat := (l.map fun x => (linesL (runes x.1)).length).sum
theorem countS_step {l : List (ByteArray × Nat)} {k : Nat} {x : ByteArray × Nat} (h : l[k]? = some x) : countS (l.take (k + 1)) = countS (l.take k) + (linesL (runes x.1)).length := by
  unfold countS; rw [take_step h, List.map_append, List.sum_append]; simp
theorem count_lf {st : StyleV} (items : List (ByteArray × Nat)) (h : bl st.newline = [10]) : (allT st items).length = countS items := by
  rw [all_count]
  unfold countS
  congr 1
  refine List.map_congr_left (fun x _ => ?_)
  unfold textsT
  rw [if_neg (by rw [h]; simp)]
theorem sum_ones {α : Type} : ∀ l : List α, (l.map fun _ => 1).sum = l.length
  | [] => rfl
  | x :: l => by rw [List.map_cons, List.sum_cons, sum_ones l, List.length_cons]; omega
theorem count_one {st : StyleV} (items : List (ByteArray × Nat)) (h : bl st.newline ≠ [10]) : (allT st items).length = items.length := by
  rw [all_count]
  have e : (items.map fun x => (textsT st x.1).length) = items.map fun _ => 1 := List.map_congr_left (fun x _ => by unfold textsT; rw [if_pos h]; rfl)
  rw [e]
  exact sum_ones items
theorem starMd_ok : OkStyle (starSt ⟨#[32, 32]⟩ ⟨#[60, 98, 114, 47, 62]⟩) := by
  have s1 : okL [42] := ⟨goodL_ascii (by intro b hb; simp at hb; subst hb; decide), by intro b hb; simp at hb; subst hb; decide⟩
  have s2 : okL [32, 32] := ⟨goodL_ascii (by intro b hb; simp at hb; subst hb; decide), by intro b hb; simp at hb; subst hb; decide⟩
  have s3 : okL [60, 98, 114, 47, 62] := ⟨goodL_ascii (by intro b hb; simp at hb; rcases hb with rfl | rfl | rfl | rfl | rfl <;> decide), by intro b hb; simp at hb; rcases hb with rfl | rfl | rfl | rfl | rfl <;> decide⟩
  exact ⟨s1, s1, s1, s1, s2, s1, s2, Or.inr s3⟩
theorem md_count (items : List (ByteArray × Nat)) : (allT (starSt ⟨#[32, 32]⟩ ⟨#[60, 98, 114, 47, 62]⟩) items).length = items.length := count_one _ (by decide)

set_option maxRecDepth 100000 in
set_option maxHeartbeats 16000000 in
theorem listsLineCount_any (A : Option Addr) (n c : Nat) (l : List Step) (st : StyleV) (w : World) (h : StepsAt w w.heap.size A n c l) (hnm : st.nm = ⟨#[]⟩) (hC : cost l ≤ 1099511627776) :
    Calls Tryd.prog 7 #[.slice A n c, st.arg] w fun e w' => e = .returned (.bool true) ∧ Below w.heap.size w w' := by
  unfold StyleV.arg
  have hbox := (Below.refl w.heap.size w).alloc (Nat.le_refl _) (.cells #[.int .i64 st.fmt, .string st.single, .string st.top, .string st.first, .string st.middle, .string st.vert, .string st.bottom, .string st.newline, .string st.pfx] 35)
  have h1 := (h.below hbox).more hbox.size
  have hhb : (w.alloc (.cells #[.int .i64 st.fmt, .string st.single, .string st.top, .string st.first, .string st.middle, .string st.vert, .string st.bottom, .string st.newline, .string st.pfx] 35)).heap[w.heap.size]? = some (.cells #[.int .i64 st.fmt, .string st.single, .string st.top, .string st.first, .string st.middle, .string st.vert, .string st.bottom, .string st.newline, .string st.pfx] 35 (0, 0)) := heap_alloc_new w _
  obtain ⟨w0, hw0⟩ : ∃ w0, w0 = w.alloc (.cells #[.int .i64 st.fmt, .string st.single, .string st.top, .string st.first, .string st.middle, .string st.vert, .string st.bottom, .string st.newline, .string st.pfx] 35) := ⟨_, rfl⟩
  have hlt0 : w.heap.size < w0.heap.size := by rw [hw0]; simp
  clear h
  cases hf : fitStepsB l with
  | false =>
    have HFS := Lib.hid hf
    clear hf
    go_enter Tryd.func7, Tryd.ntmps7
    go_wp2_with fail
    rw [← hw0] at hbox h1 hhb ⊢
    clear hw0
    refine (fitSteps_any A n c l _ h1).mono ?_
    rintro e w1 ⟨rfl, hb1⟩
    rw [HFS.out]
    have hb2 := hbox.trans (hb1.mono hbox.size)
    clear h1 hhb hb1
    go_wp2
    go_ret
    exact ⟨rfl, hb2⟩
  | true =>
  have HFS := Lib.hid hf
  clear hf
  have hfs := fun W => fitStyle_any st W
  unfold StyleV.arg at hfs
  obtain ⟨fb, hfb⟩ : ∃ fb, fb = fitStyleB st := ⟨_, rfl⟩
  rw [← hfb] at hfs
  have HFT := Lib.hid hfs
  clear hfs hfb
  go_enter Tryd.func7, Tryd.ntmps7
  go_wp2_with fail
  rw [← hw0] at hbox h1 hhb ⊢
  clear hw0
  refine (fitSteps_any A n c l _ h1).mono ?_
  rintro e w1 ⟨rfl, hb1⟩
  rw [HFS.out]
  have hblk1 : w1.heap[w.heap.size]? = _ := (hb1.block w.heap.size (blk_lt hhb)).trans hhb
  have k0 := blk_cell hblk1 0
  have k1 := blk_cell hblk1 1
  have k2 := blk_cell hblk1 2
  have k3 := blk_cell hblk1 3
  have k4 := blk_cell hblk1 4
  have k5 := blk_cell hblk1 5
  have k6 := blk_cell hblk1 6
  have k7 := blk_cell hblk1 7
  have k8 := blk_cell hblk1 8
  go_wp2_with fail
  refine (HFT.out _).mono ?_
  rintro e w2 ⟨rfl, hb2⟩
  have hb02 := hb1.trans (hb2.mono hb1.size)
  have hbw2 := hbox.trans (hb02.mono hbox.size)
  have h2 := (h1.below hb02).more hb02.size
  have hblk2 : w2.heap[w.heap.size]? = _ := (hb2.block w.heap.size (blk_lt hblk1)).trans hblk1
  have hlt2 : w.heap.size < w2.heap.size := blk_lt hblk2
  clear k0 k1 k2 k3 k4 k5 k6 k7 k8 hblk1 hhb h1 hb1 hb2 HFT
  cases fb with
  | false =>
    go_wp2
    go_ret
    exact ⟨rfl, hbw2⟩
  | true =>
  have hsty := fun W => styled_any st W
  unfold StyleV.arg at hsty
  have HBOX := Lib.hid (fun (W : World) (hW : Below w2.heap.size w2 W) => box9 hblk2 hlt2 hW)
  clear hblk2
  go_wp2_with fail
  refine (played_any A n c l _ h2 hC).mono ?_
  rintro e w6 ⟨v6, rfl, hown6, hb6⟩
  obtain ⟨A6, c6, rfl, hit6⟩ := hown6.at_
  have h6 := (h2.below hb6).more hb6.size
  obtain ⟨mn, hmn⟩ : ∃ mn, mn = (played l).length := ⟨_, rfl⟩
  rw [← hmn] at hit6 ⊢
  have HMN := Lib.hid hmn
  clear hmn hown6
  cases hr : rightB l with
  | false =>
    have HR := Lib.hid hr
    clear hr hit6 hsty
    go_wp2_with fail
    refine (right_any A n c l _ h6).mono ?_
    rintro e w4 ⟨rfl, hb4⟩
    rw [HR.out]
    have hbZ := hbw2.trans ((hb6.trans (hb4.mono hb6.size)).mono hbw2.size)
    go_wp2
    go_ret
    exact ⟨rfl, hbZ⟩
  | true =>
  have HR := Lib.hid hr
  have HFI := Lib.hid (Fine.of_right hr)
  go_wp2_with fail
  refine (right_any A n c l _ h6).mono ?_
  rintro e w7 ⟨rfl, hb7⟩
  rw [HR.out]
  have hb27 := hb6.trans (hb7.mono hb6.size)
  obtain ⟨k0, k1, k2, k3, k4, k5, k6, k7, k8, _⟩ := HBOX.out _ hb27
  cases hs : styledB st with
  | false =>
    rw [hs] at hsty
    have HSTY := Lib.hid hsty
    clear hsty hs hr hit6 h6
    go_wp2_with fail
    refine (HSTY.out _).mono ?_
    rintro e w5 ⟨rfl, hb5⟩
    have hbZ := hbw2.trans ((hb27.trans (hb5.mono hb27.size)).mono hbw2.size)
    clear k0 k1 k2 k3 k4 k5 k6 k7 k8
    go_wp2
    go_ret
    exact ⟨rfl, hbZ⟩
  | true =>
  have HSF := Lib.hid (styled_facts hs).1
  have HOK := Lib.hid (styled_ok hs)
  have HD2 := Lib.hid (draws_same hr hs)
  have HMD := Lib.hid (md_same hr)
  have HSI := Lib.hid (right_simple hr)
  have HT := Lib.hid (right_tight hr)
  rw [hs] at hsty
  have HSTY := Lib.hid hsty
  clear hsty hs hr h6
  go_wp2_with fail
  refine (HSTY.out _).mono ?_
  rintro e w8 ⟨rfl, hb8⟩
  have hb28 := hb27.trans (hb8.mono hb27.size)
  have hb68 := hb7.trans (hb8.mono hb7.size)
  have hit8 := (hit6.below hb68).more hb68.size
  clear k0 k1 k2 k3 k4 k5 k6 k7 k8 hb8 hb7 hb6 hb27 hb68 hit6 HSTY
  by_cases hm0 : mn = 0
  · subst hm0
    have hbZ := hbw2.trans (hb28.mono hbw2.size)
    clear hit8
    go_wp2
    go_ret
    exact ⟨rfl, hbZ⟩
  have hm0b : ((mn : Int) == 0) = false := by rw [beq_eq_false_iff_ne]; omega
  have HNE := Lib.hid (show played l ≠ [] by intro e; apply hm0; rw [HMN.out, e]; rfl)
  have hmb : mn ≤ 880 := by rw [HMN.out]; exact HT.out.1
  go_wp2_with fail
  go_loopw [6, 34] (fun v6 v34 wr => ∃ k C : Nat, k ≤ mn ∧ v34 = .int .i64 k ∧ v6 = .int .i64 C ∧ Hid (C = countS ((played l).take k)) ∧ C ≤ 202 * k ∧ Below w8.heap.size w8 wr) (fun _ v34 _ => mn - (intOf v34).toNat)
  case atStart => exact ⟨0, 0, Nat.zero_le _, rfl, rfl, Lib.hid rfl, Nat.zero_le _, Below.refl _ _⟩
  case round =>
    obtain ⟨k, C, hk, rfl, rfl, HC, hCb, hbr⟩ := hrel
    have hszr := hbr.size
    by_cases hlt : k < mn
    · obtain ⟨ad, x, rfl, _, hx, hc0, hc1⟩ := (hit8.below hbr).at_ hlt
      have hki : (k : Int) < (mn : Int) := by omega
      have hxz := (HT.out.2 x (List.mem_of_getElem? hx)).1
      have hlz := (lines_tight hxz).1
      have HST := Lib.hid (countS_step hx)
      have hb1 := hbr.alloc hszr (.cells #[.string x.1, .int .i64 x.2] 31)
      obtain ⟨tx, lx⟩ := x
      dsimp only at hc0 hc1 hb1 hxz hlz HST
      obtain ⟨m, hm⟩ : ∃ m, m = (linesL (runes tx)).length := ⟨_, rfl⟩
      have HM := Lib.hid hm
      rw [← hm] at hlz
      clear hx hm hit8
      go_wp2_with fail
      refine (lines_any tx _ (by omega)).mono ?_
      rintro e w9 ⟨v9, rfl, hown9, hb9⟩
      obtain ⟨A9, c9, rfl, _⟩ := hown9.rd
      rw [← HM.out]
      have hbX := hb1.trans (hb9.mono hb1.size)
      have HN := Lib.hid (show C + m = countS ((played l).take (k + 1)) by rw [HST.out, ← HM.out, HC.out])
      clear hown9 hb9 hb1 hc0 hc1 HM HST HC
      go_wp2_with fail
      go_roundw
      case rel => exact ⟨k + 1, C + m, by omega, by go_num, by go_num, HN, by omega, hbX⟩
      case measure => simp [intOf]; omega
    · have hki : ¬ (k : Int) < (mn : Int) := by omega
      have hkN : k = mn := by omega
      subst hkN
      have HCC := Lib.hid (show C = countS (played l) by rw [HC.out, List.take_of_length_le (by rw [← HMN.out]; exact Nat.le_refl _)])
      have hbW := hb28.trans (hbr.mono hb28.size)
      obtain ⟨k0, k1, k2, k3, k4, k5, k6, k7, k8, _⟩ := HBOX.out _ hbW
      obtain ⟨N, hN⟩ : ∃ N, N = (allT st (played l)).length := ⟨_, rfl⟩
      have HN := Lib.hid hN
      clear hN hit8 HC hbr
      go_upto_if 47 with (fail)
      go_cut [6] (fun v6 wx => v6 = .int .i64 N ∧ Below wr.heap.size wr wx)
      case first =>
        cases hnl : (st.newline.toList == [10]) with
        | true =>
          have hCN : C = N := by
            have e : st.newline.toList = [10] := by simpa using hnl
            rw [Lib.toList_data] at e
            rw [HN.out, HCC.out]
            exact (count_lf _ e).symm
          subst hCN
          go_wp2_with fail
          go_meet
          exact ⟨rfl, Below.refl _ _⟩
        | false =>
          have hCN : k = N := by
            have e : ¬ st.newline.toList = [10] := by simpa using hnl
            rw [Lib.toList_data] at e
            rw [HN.out, HMN.out]
            exact (count_one _ e).symm
          subst hCN
          go_wp2_with fail
          go_meet
          exact ⟨rfl, Below.refl _ _⟩
      case rest =>
        obtain ⟨rfl, hbc⟩ := hcut
        obtain ⟨wq, rfl⟩ : ∃ q : World, q = wc := ⟨_, rfl⟩
        have hbQ := hbW.trans (hbc.mono hbW.size)
        clear k0 k1 k2 k3 k4 k5 k6 k7 k8 hbW hbc
        obtain ⟨k0, k1, k2, k3, k4, k5, k6, k7, k8, _⟩ := HBOX.out _ hbQ
        have hatq := (h2.below hbQ).more hbQ.size
        obtain ⟨o2, ho2⟩ : ∃ o, o = mkB (drawD st (played l)) := ⟨_, rfl⟩
        have hd2 := listRender_of A n c l st wq hatq HFI.out.cost (by have := HFI.out.len; omega) HFI.out.plain HFI.out.drawn HSF.out hnm
        rw [show (⟨(drawD st (played l)).toArray⟩ : ByteArray) = o2 from ho2.symm] at hd2
        unfold StyleV.arg at hd2
        have HC2 := Lib.hid hd2
        have HT2 := Lib.hid (show linesL (runes o2) = allT st (played l) by rw [ho2, ← HD2.out]; exact drawn_lines HOK.out HSI.out HNE.out)
        have ho2z : o2.size ≤ 1000000000 := by
          rw [ho2, ← HD2.out]
          show (mkB _).size ≤ _
          rw [← bl_size]
          exact drawn_size HSF.out HR.out
        clear hd2 ho2 hatq
        go_wp2_with fail
        refine HC2.out.mono ?_
        rintro e wa ⟨rfl, hba⟩
        have hbA := hbQ.trans (hba.mono hbQ.size)
        clear k0 k1 k2 k3 k4 k5 k6 k7 k8 HC2 hba hbQ
        go_wp2_with fail
        refine (lines_any o2 _ ho2z).mono ?_
        rintro e wb ⟨vb, rfl, hownB, hbb'⟩
        obtain ⟨Ab, cb, rfl, _⟩ := hownB.rd
        rw [HT2.out, ← HN.out]
        have hbB := hbA.trans (hbb'.mono hbA.size)
        obtain ⟨k0, k1, k2, k3, k4, k5, k6, k7, k8, _⟩ := HBOX.out _ hbB
        have hatb := (h2.below hbB).more hbB.size
        obtain ⟨o3, ho3⟩ : ∃ o, o = mkB (drawD mdStyle (played l)) := ⟨_, rfl⟩
        have hd3 := listMd_of A n c l st wb hatb HFI.out.cost (by have := HFI.out.len; omega) HFI.out.plain HFI.out.drawn hnm
        rw [show (⟨(drawD mdStyle (played l)).toArray⟩ : ByteArray) = o3 from ho3.symm] at hd3
        unfold StyleV.arg at hd3
        have HC3 := Lib.hid hd3
        have HT3 := Lib.hid (show linesL (runes o3) = allT (starSt ⟨#[32, 32]⟩ ⟨#[60, 98, 114, 47, 62]⟩) (played l) by rw [ho3, ← HMD.out]; exact drawn_lines starMd_ok HSI.out HNE.out)
        have ho3z : o3.size ≤ 1000000000 := by
          rw [ho3, ← HMD.out]
          show (mkB _).size ≤ _
          rw [← bl_size]
          exact drawn_size starMd_small HR.out
        clear hd3 ho3 hatb hownB hbb' hbA
        go_wp2_with fail
        refine HC3.out.mono ?_
        rintro e wd ⟨rfl, hbd⟩
        have hbD := hbB.trans (hbd.mono hbB.size)
        clear k0 k1 k2 k3 k4 k5 k6 k7 k8 HC3 hbd hbB
        go_wp2_with fail
        refine (lines_any o3 _ ho3z).mono ?_
        rintro e we ⟨ve, rfl, hownE, hbe⟩
        obtain ⟨Ae, ce, rfl, _⟩ := hownE.rd
        rw [HT3.out, md_count, ← HMN.out]
        have hbE := hbD.trans (hbe.mono hbD.size)
        clear hownE hbe hbD
        go_wp2_with fail
        refine (alive_any _).mono ?_
        rintro e wf ⟨rfl, hbf⟩
        have hbZ := hbw2.trans ((hbE.trans (hbf.mono hbE.size)).mono hbw2.size)
        go_wp2
        go_ret
        exact ⟨rfl, hbZ⟩
end Go.Proofs.YtccbjmmggolhnaaDoor
