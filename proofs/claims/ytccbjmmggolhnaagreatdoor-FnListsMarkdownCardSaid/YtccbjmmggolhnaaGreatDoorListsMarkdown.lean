/- Walk of laws.FnListsMarkdown: it answers true and writes nothing that was there. No condition. -/
import Derived.Test.YtccbjmmggolhnaaGreatDoorLt
import Derived.Test.YtccbjmmggolhnaaGreatDoorListsUn
import Derived.Test.YtccbjmmggolhnaaGreatDoorListMd
import Derived.Deep.RegionHeld3
namespace Go.Proofs.YtccbjmmggolhnaaGreatDoor
open Go.RowKit
set_option linter.unusedVariables false

theorem flatI_at {l : List (ByteArray × Nat)} : ∀ {k : Nat} {x : ByteArray × Nat}, l[k]? = some x → (flatI l)[2 * k]? = some (.string x.1) ∧ (flatI l)[2 * k + 1]? = some (.int .i64 x.2) := by
  induction l with
  | nil => intro k x h; simp at h
  | cons y l ih =>
    intro k x h
    match k, h with
    | 0, h => simp at h; subst h; exact ⟨rfl, rfl⟩
    | k + 1, h =>
      have h2 := ih (k := k) (x := x) (by simpa using h)
      show ((.string y.1 :: .int .i64 y.2 :: flatI l : List Value))[2 * (k + 1)]? = _ ∧ ((.string y.1 :: .int .i64 y.2 :: flatI l : List Value))[2 * (k + 1) + 1]? = _
      rw [show 2 * (k + 1) = 2 * k + 1 + 1 by omega, List.getElem?_cons_succ, List.getElem?_cons_succ, List.getElem?_cons_succ, List.getElem?_cons_succ]
      exact h2
theorem OwnItems.at_ {w : World} {B : Nat} {v : Value} {l : List (ByteArray × Nat)} (h : OwnItems w B v l) : ∃ A c, v = .slice A l.length c ∧ ItemsAt w w.heap.size A l.length c l := by
  obtain ⟨A, c, hv, hr⟩ := own_rd h
  exact ⟨A, c, hv, _, hr, rfl, fun k x hx => flatI_at hx⟩
theorem StepsAt.drew {w : World} {B n c : Nat} {A : Option Addr} {l : List Step} (h : StepsAt w B A n c l) : StepsAt w.drew B A n c l := by
  obtain ⟨xs, h1, h2, h3⟩ := h
  refine ⟨xs, h1.drew, h2, fun k s hk => ?_⟩
  obtain ⟨A', n', c', a, b, c1, d⟩ := h3 k s hk
  exact ⟨A', n', c', a, b, c1, Rd.drew d⟩
theorem draws_same {l : List Step} {st : StyleV} (hr : rightB l = true) (hs : styledB st = true) : drawnT st (played l) = drawD st (played l) := by
  obtain ⟨_, h2, h3, _⟩ := styled_facts hs
  exact drawn_eq h2 h3 (right_simple hr)

theorem starMd_facts : ∀ r ∈ runes (starSt ⟨#[32, 32]⟩ ⟨#[60, 98, 114, 47, 62]⟩).vert, r ≠ 10 ∧ wideB r = false := by
  intro r hr
  have e : runes (starSt ⟨#[32, 32]⟩ ⟨#[60, 98, 114, 47, 62]⟩).vert = [32, 32] := by
    show runes ⟨[32, 32].toArray⟩ = _
    rw [runes_mk [32, 32] (by decide)]
    rfl
  rw [e] at hr
  simp at hr
  subst hr
  decide
theorem starMd_small : styleSmall (starSt ⟨#[32, 32]⟩ ⟨#[60, 98, 114, 47, 62]⟩) := ⟨rfl, by decide, by decide, by decide, by decide, by decide, by decide, by decide, by decide⟩
theorem md_same {l : List Step} (hr : rightB l = true) : drawnT (starSt ⟨#[32, 32]⟩ ⟨#[60, 98, 114, 47, 62]⟩) (played l) = drawD mdStyle (played l) := by
  rw [drawn_eq starMd_facts (Or.inr (by decide)) (right_simple hr)]
  rfl
theorem md_one : drawD mdStyle (played (oneStep ⟨#[97]⟩)) = [32, 32, 42, 32, 97] := by
  have hz : zfind ⟨#[97]⟩ ⟨#[10]⟩ 0 = -1 := by
    rw [zfind_next (by decide) (show eqAt ⟨#[97]⟩ ⟨#[10]⟩ 0 = false by rw [eqAt_iff (by decide)]; rfl), zfind_end (by decide)]
  have h1 : textD mdStyle ⟨#[97]⟩ = ⟨#[97]⟩ := by unfold textD; rw [if_neg (fun e => by have := e.1; rw [hz] at this; omega)]
  have h2 : splitL [10] [97] = [[97]] := by rw [splitL_miss (by decide), splitL_nil]
  have h3 : linesOf mdStyle ⟨#[97]⟩ = [⟨#[97]⟩] := by unfold linesOf; rw [h1]; show (splitL [10] [97]).map mkB = _; rw [h2]; rfl
  show drawD mdStyle [(⟨#[97]⟩, 0)] = _
  simp only [drawD, mapCat, itemD, h3]
  rfl

set_option maxRecDepth 100000 in
set_option maxHeartbeats 16000000 in
theorem listsMarkdown_any (A : Option Addr) (n c : Nat) (l : List Step) (st : StyleV) (w : World) (h : StepsAt w w.heap.size A n c l) (hnm : st.nm = ⟨#[]⟩) :
    Calls Tryz.prog 4 #[.slice A n c, st.arg] w fun e w' => e = .returned (.bool true) ∧ Below w.heap.size w w' := by
  unfold StyleV.arg
  have hbox := (Below.refl w.heap.size w).alloc (Nat.le_refl _) (.cells #[.int .i64 st.fmt, .string st.single, .string st.top, .string st.first, .string st.middle, .string st.vert, .string st.bottom, .string st.newline, .string st.pfx] 24)
  have h1 := (h.below hbox).more hbox.size
  have hhb : (w.alloc (.cells #[.int .i64 st.fmt, .string st.single, .string st.top, .string st.first, .string st.middle, .string st.vert, .string st.bottom, .string st.newline, .string st.pfx] 24)).heap[w.heap.size]? = some (.cells #[.int .i64 st.fmt, .string st.single, .string st.top, .string st.first, .string st.middle, .string st.vert, .string st.bottom, .string st.newline, .string st.pfx] 24 (0, 0)) := heap_alloc_new w _
  obtain ⟨w0, hw0⟩ : ∃ w0, w0 = w.alloc (.cells #[.int .i64 st.fmt, .string st.single, .string st.top, .string st.first, .string st.middle, .string st.vert, .string st.bottom, .string st.newline, .string st.pfx] 24) := ⟨_, rfl⟩
  have hlt0 : w.heap.size < w0.heap.size := by rw [hw0]; simp
  clear h
  cases hf : fitStepsB l with
  | false =>
    have HFS := Lib.hid hf
    clear hf
    go_enter Tryz.func4, Tryz.ntmps4
    go_wp2_with fail
    rw [← hw0] at hbox h1 hhb ⊢
    clear hw0
    refine (fitSteps_any A n c l _ h1).mono ?_
    rintro e w1 ⟨rfl, hb1⟩
    rw [HFS.out]
    have hb2 := hbox.trans (hb1.mono hbox.size)
    clear h1 hhb hb1
    go_wp2
    go_ret
    exact ⟨rfl, hb2⟩
  | true =>
  have HFS := Lib.hid hf
  clear hf
  have hfs := fun W => fitStyle_any st W
  unfold StyleV.arg at hfs
  obtain ⟨fb, hfb⟩ : ∃ fb, fb = fitStyleB st := ⟨_, rfl⟩
  rw [← hfb] at hfs
  have HFT := Lib.hid hfs
  clear hfs hfb
  go_enter Tryz.func4, Tryz.ntmps4
  go_wp2_with fail
  rw [← hw0] at hbox h1 hhb ⊢
  clear hw0
  refine (fitSteps_any A n c l _ h1).mono ?_
  rintro e w1 ⟨rfl, hb1⟩
  rw [HFS.out]
  have hblk1 : w1.heap[w.heap.size]? = _ := (hb1.block w.heap.size (blk_lt hhb)).trans hhb
  have k0 := blk_cell hblk1 0
  have k1 := blk_cell hblk1 1
  have k2 := blk_cell hblk1 2
  have k3 := blk_cell hblk1 3
  have k4 := blk_cell hblk1 4
  have k5 := blk_cell hblk1 5
  have k6 := blk_cell hblk1 6
  have k7 := blk_cell hblk1 7
  have k8 := blk_cell hblk1 8
  go_wp2_with fail
  refine (HFT.out _).mono ?_
  rintro e w2 ⟨rfl, hb2⟩
  have hb02 := hb1.trans (hb2.mono hb1.size)
  have hbw2 := hbox.trans (hb02.mono hbox.size)
  have h2 := (h1.below hb02).more hb02.size
  have hblk2 : w2.heap[w.heap.size]? = _ := (hb2.block w.heap.size (blk_lt hblk1)).trans hblk1
  have hlt2 : w.heap.size < w2.heap.size := blk_lt hblk2
  clear k0 k1 k2 k3 k4 k5 k6 k7 k8 hblk1 hhb h1 hb1 hb2 HFT
  cases fb with
  | false =>
    go_wp2
    go_ret
    exact ⟨rfl, hbw2⟩
  | true =>
  cases hr : rightB l with
  | false =>
    have HR := Lib.hid hr
    clear hr
    go_wp2_with fail
    refine (right_any A n c l _ h2).mono ?_
    rintro e w4 ⟨rfl, hb4⟩
    rw [HR.out]
    have hbZ := hbw2.trans (hb4.mono hbw2.size)
    go_wp2
    go_ret
    exact ⟨rfl, hbZ⟩
  | true =>
  have HR := Lib.hid hr
  have HFI := Lib.hid (Fine.of_right hr)
  have hsty := fun W => styled_any st W
  unfold StyleV.arg at hsty
  obtain ⟨sb, hsb⟩ : ∃ sb, sb = styledB st := ⟨_, rfl⟩
  rw [← hsb] at hsty
  have HSTY := Lib.hid hsty
  have HSB := Lib.hid hsb
  clear hsty hsb
  obtain ⟨o, ho⟩ : ∃ o, o = mkB (drawD mdStyle (played l)) := ⟨_, rfl⟩
  have HO := Lib.hid (show (⟨(drawD mdStyle (played l)).toArray⟩ : ByteArray) = o from ho.symm)
  have HO2 := Lib.hid (show mkB (drawnT (starSt ⟨#[32, 32]⟩ ⟨#[60, 98, 114, 47, 62]⟩) (played l)) = o by rw [ho, md_same hr])
  have HONE := Lib.hid (show (⟨(drawD mdStyle (played (oneStep ⟨#[97]⟩))).toArray⟩ : ByteArray) = ⟨#[32, 32, 42, 32, 97]⟩ by rw [md_one])
  have HBOX := Lib.hid (fun (W : World) (hW : Below w2.heap.size w2 W) => box9 hblk2 hlt2 hW)
  clear hr ho hblk2
  go_wp2_with fail
  refine (right_any A n c l _ h2).mono ?_
  rintro e w4 ⟨rfl, hb4⟩
  rw [HR.out]
  have h4 := (h2.below hb4).more hb4.size
  obtain ⟨k0, k1, k2, k3, k4, k5, k6, k7, k8, _⟩ := HBOX.out _ hb4
  go_wp2_with fail
  refine (HSTY.out _).mono ?_
  rintro e w5 ⟨rfl, hb5⟩
  have hb25 := hb4.trans (hb5.mono hb4.size)
  have h5 := (h2.below hb25).more hb25.size
  clear k0 k1 k2 k3 k4 k5 k6 k7 k8 h4 hb5 hb4 HSTY
  cases sb with
  | false =>
    have hbZ := hbw2.trans (hb25.mono hbw2.size)
    go_wp2
    go_ret
    exact ⟨rfl, hbZ⟩
  | true =>
  obtain ⟨k0, k1, k2, k3, k4, k5, k6, k7, k8, _⟩ := HBOX.out _ hb25
  have hmd := listMd_of A n c l st w5 h5 HFI.out.cost (by have := HFI.out.len; omega) HFI.out.plain HFI.out.drawn hnm
  rw [HO.out] at hmd
  unfold StyleV.arg at hmd
  have HMD := Lib.hid hmd
  clear hmd
  go_wp2_with fail
  refine HMD.out.mono ?_
  rintro e w6 ⟨rfl, hb6⟩
  have hb26 := hb25.trans (hb6.mono hb25.size)
  have h6 := (h2.below hb26).more hb26.size
  clear k0 k1 k2 k3 k4 k5 k6 k7 k8 h5 hb6 hb25 HMD
  go_wp2_with fail
  refine (played_any A n c l _ h6 (by have := HFI.out.cost; omega)).mono ?_
  rintro e w7 ⟨v7, rfl, hown7, hb7⟩
  obtain ⟨A7, c7, rfl, h7⟩ := hown7.at_
  obtain ⟨mn, hmn⟩ : ∃ mn, mn = (played l).length := ⟨_, rfl⟩
  rw [← hmn] at h7 ⊢
  have hb27 := hb26.trans (hb7.mono hb26.size)
  clear h6 hown7 hb7 hb26 hmn
  go_wp2_with fail
  refine (star_any ⟨#[32, 32]⟩ ⟨#[60, 98, 114, 47, 62]⟩ _).mono ?_
  rintro e w8 ⟨rfl, hb8⟩
  have hb28 := hb27.trans (hb8.mono hb27.size)
  have h8 := (h7.below hb8).more hb8.size
  have hdn := ltDrawn_any A7 mn c7 (played l) (starSt ⟨#[32, 32]⟩ ⟨#[60, 98, 114, 47, 62]⟩) w8 h8 HFI.out.drawn starMd_small
  rw [HO2.out] at hdn
  have HDN := Lib.hid hdn
  unfold starSt StyleV.arg at HDN ⊢
  dsimp only at HDN ⊢
  clear hdn h7 h8 hb27 hb8
  go_wp2_with fail
  refine HDN.out.mono ?_
  rintro e w9 ⟨rfl, hb9⟩
  have hb29 := hb28.trans (hb9.mono hb28.size)
  have hone := one_at w9 ⟨#[97]⟩
  have hb2A := hb29.alloc hb29.size (.cells #[.int .i64 0, .string ⟨#[97]⟩, .slice none 0 0] 36)
  obtain ⟨k0, k1, k2, k3, k4, k5, k6, k7, k8, _⟩ := HBOX.out _ hb2A
  have hmd := listMd_of (some ⟨w9.heap.size, 0, none⟩) 1 1 (oneStep ⟨#[97]⟩) st _ hone (by decide) (by decide) one_plain one_items hnm
  rw [HONE.out] at hmd
  unfold StyleV.arg at hmd
  have HMD := Lib.hid hmd
  clear hmd HDN hb28 hb9 hone hb29
  go_wp2_with fail
  refine HMD.out.mono ?_
  rintro e w10 ⟨rfl, hb10⟩
  have hbZ := hbw2.trans ((hb2A.trans (hb10.mono hb2A.size)).mono hbw2.size)
  clear k0 k1 k2 k3 k4 k5 k6 k7 k8 HMD HBOX
  go_wp2
  go_ret
  exact ⟨rfl, hbZ⟩
end Go.Proofs.YtccbjmmggolhnaaGreatDoor
