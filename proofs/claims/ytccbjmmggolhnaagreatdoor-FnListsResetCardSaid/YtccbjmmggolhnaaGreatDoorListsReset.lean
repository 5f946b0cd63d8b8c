/- Walk of laws.FnListsReset: it answers true and writes nothing that was there. No condition. -/
import Derived.Test.YtccbjmmggolhnaaGreatDoorLt
import Derived.Test.YtccbjmmggolhnaaGreatDoorListsUn
import Derived.Test.YtccbjmmggolhnaaGreatDoorListMd
import Derived.Deep.RegionHeld3
namespace Go.Proofs.YtccbjmmggolhnaaGreatDoor
open Go.RowKit
set_option linter.unusedVariables false

def resetS : Step := ⟨5, ⟨#[]⟩, []⟩
theorem played_reset (a b : List Step) : played (a ++ [resetS] ++ b) = played b := by
  unfold played
  simp only [List.foldl_append, List.foldl_cons, List.foldl_nil]
  rfl
theorem reset_fine {a b : List Step} (ha : rightB a = true) (hb : rightB b = true) : Fine (a ++ [resetS] ++ b) := by
  have f1 := Fine.of_right ha
  have f2 := Fine.of_right hb
  obtain ⟨_, a2, a3⟩ := right_plain ha
  obtain ⟨_, b2, b3⟩ := right_plain hb
  refine ⟨by simp only [List.length_append, List.length_cons, List.length_nil]; omega, ?_, ?_, ?_⟩
  · rw [cost_append, cost_append, show cost [resetS] = 1 from rfl]; omega
  · exact ListsOK.app (ListsOK.app f1.plain (by intro s hs; simp at hs; subst hs; exact plain_none)) f2.plain
  · exact ListsOK.app (ListsOK.app f1.small small_one) f2.small

set_option maxRecDepth 100000 in
set_option maxHeartbeats 16000000 in
theorem listsReset_any (A1 : Option Addr) (n1 c1 : Nat) (a : List Step) (A2 : Option Addr) (n2 c2 : Nat) (b : List Step) (st : StyleV) (w : World) (h : StepsAt w w.heap.size A1 n1 c1 a) (g : StepsAt w w.heap.size A2 n2 c2 b) (hnm : st.nm = ⟨#[]⟩) (z1 : A1 = none → n1 = 0 ∧ c1 = 0) (z2 : A2 = none → n2 = 0 ∧ c2 = 0) :
    Calls Tryz.prog 5 #[.slice A1 n1 c1, .slice A2 n2 c2, st.arg] w fun e w' => e = .returned (.bool true) ∧ Below w.heap.size w w' := by
  unfold StyleV.arg
  have hbox := (Below.refl w.heap.size w).alloc (Nat.le_refl _) (.cells #[.int .i64 st.fmt, .string st.single, .string st.top, .string st.first, .string st.middle, .string st.vert, .string st.bottom, .string st.newline, .string st.pfx] 24)
  have h1 := (h.below hbox).more hbox.size
  have g1 := (g.below hbox).more hbox.size
  have hhb : (w.alloc (.cells #[.int .i64 st.fmt, .string st.single, .string st.top, .string st.first, .string st.middle, .string st.vert, .string st.bottom, .string st.newline, .string st.pfx] 24)).heap[w.heap.size]? = some (.cells #[.int .i64 st.fmt, .string st.single, .string st.top, .string st.first, .string st.middle, .string st.vert, .string st.bottom, .string st.newline, .string st.pfx] 24 (0, 0)) := heap_alloc_new w _
  obtain ⟨w0, hw0⟩ : ∃ w0, w0 = w.alloc (.cells #[.int .i64 st.fmt, .string st.single, .string st.top, .string st.first, .string st.middle, .string st.vert, .string st.bottom, .string st.newline, .string st.pfx] 24) := ⟨_, rfl⟩
  have HH := Lib.hid h
  have HG := Lib.hid g
  have hlt0 : w.heap.size < w0.heap.size := by rw [hw0]; simp
  clear h g
  have hfs := fun W => fitStyle_any st W
  unfold StyleV.arg at hfs
  obtain ⟨fa, hfa⟩ : ∃ q, q = fitStepsB a := ⟨_, rfl⟩
  obtain ⟨fb, hfb⟩ : ∃ q, q = fitStepsB b := ⟨_, rfl⟩
  obtain ⟨fc, hfc⟩ : ∃ q, q = fitStyleB st := ⟨_, rfl⟩
  rw [← hfc] at hfs
  have HFA := Lib.hid hfa
  have HFB := Lib.hid hfb
  have HFT := Lib.hid hfs
  clear hfs hfa hfb hfc
  go_enter Tryz.func5, Tryz.ntmps5
  go_wp2_with fail
  rw [← hw0] at hbox h1 g1 hhb ⊢
  clear hw0
  refine (fitSteps_any A1 n1 c1 a _ h1).mono ?_
  rintro e w1 ⟨rfl, hb1⟩
  rw [← HFA.out]
  cases fa with
  | false =>
    have hbZ := hbox.trans (hb1.mono hbox.size)
    clear h1 g1 hhb hb1
    go_wp2
    go_ret
    exact ⟨rfl, hbZ⟩
  | true =>
  have g2 := (g1.below hb1).more hb1.size
  go_wp2_with fail
  refine (fitSteps_any A2 n2 c2 b _ g2).mono ?_
  rintro e w2 ⟨rfl, hb2⟩
  rw [← HFB.out]
  have hb02 := hb1.trans (hb2.mono hb1.size)
  cases fb with
  | false =>
    have hbZ := hbox.trans (hb02.mono hbox.size)
    clear h1 g1 hhb hb1 g2 hb2 hb02
    go_wp2
    go_ret
    exact ⟨rfl, hbZ⟩
  | true =>
  have hblk2 : w2.heap[w.heap.size]? = _ := (hb02.block w.heap.size (blk_lt hhb)).trans hhb
  have k0 := blk_cell hblk2 0
  have k1 := blk_cell hblk2 1
  have k2 := blk_cell hblk2 2
  have k3 := blk_cell hblk2 3
  have k4 := blk_cell hblk2 4
  have k5 := blk_cell hblk2 5
  have k6 := blk_cell hblk2 6
  have k7 := blk_cell hblk2 7
  have k8 := blk_cell hblk2 8
  clear hb1 hb2 g2
  go_wp2_with fail
  refine (HFT.out _).mono ?_
  rintro e w3 ⟨rfl, hb3⟩
  have hb03 := hb02.trans (hb3.mono hb02.size)
  clear k0 k1 k2 k3 k4 k5 k6 k7 k8 hb02 hb3 hblk2
  cases fc with
  | false =>
    have hbZ := hbox.trans (hb03.mono hbox.size)
    clear h1 g1 hhb hb03
    go_wp2
    go_ret
    exact ⟨rfl, hbZ⟩
  | true =>
  have h3 := (h1.below hb03).more hb03.size
  cases hra : rightB a with
  | false =>
    have HR := Lib.hid hra
    clear hra
    go_wp2_with fail
    refine (right_any A1 n1 c1 a _ h3).mono ?_
    rintro e w4 ⟨rfl, hb4⟩
    rw [HR.out]
    have hbZ := hbox.trans ((hb03.trans (hb4.mono hb03.size)).mono hbox.size)
    clear h1 g1 hhb hb03 h3 hb4
    go_wp2
    go_ret
    exact ⟨rfl, hbZ⟩
  | true =>
  have HRA := Lib.hid hra
  go_wp2_with fail
  refine (right_any A1 n1 c1 a _ h3).mono ?_
  rintro e w4 ⟨rfl, hb4⟩
  rw [HRA.out]
  have hb04 := hb03.trans (hb4.mono hb03.size)
  have g4 := (g1.below hb04).more hb04.size
  clear h3 hb03 hb4
  cases hrb : rightB b with
  | false =>
    have HR := Lib.hid hrb
    clear hrb hra
    go_wp2_with fail
    refine (right_any A2 n2 c2 b _ g4).mono ?_
    rintro e w5 ⟨rfl, hb5⟩
    rw [HR.out]
    have hbZ := hbox.trans ((hb04.trans (hb5.mono hb04.size)).mono hbox.size)
    clear h1 g1 hhb hb04 g4 hb5
    go_wp2
    go_ret
    exact ⟨rfl, hbZ⟩
  | true =>
  have HRB := Lib.hid hrb
  have HFI := Lib.hid (reset_fine hra hrb)
  have HFJ := Lib.hid (Fine.of_right hrb)
  have ha80 := (right_plain hra).2.2
  have hb80 := (right_plain hrb).2.2
  clear hra hrb
  go_wp2_with fail
  refine (right_any A2 n2 c2 b _ g4).mono ?_
  rintro e w5 ⟨rfl, hb5⟩
  rw [HRB.out]
  have hb05 := hb04.trans (hb5.mono hb04.size)
  clear g4 hb04 hb5
  have hsty := fun W => styled_any st W
  unfold StyleV.arg at hsty
  have hblk5 : w5.heap[w.heap.size]? = _ := (hb05.block w.heap.size (blk_lt hhb)).trans hhb
  have k0 := blk_cell hblk5 0
  have k1 := blk_cell hblk5 1
  have k2 := blk_cell hblk5 2
  have k3 := blk_cell hblk5 3
  have k4 := blk_cell hblk5 4
  have k5 := blk_cell hblk5 5
  have k6 := blk_cell hblk5 6
  have k7 := blk_cell hblk5 7
  have k8 := blk_cell hblk5 8
  cases hs : styledB st with
  | false =>
    rw [hs] at hsty
    have HSTY := Lib.hid hsty
    clear hsty hs
    go_wp2_with fail
    refine (HSTY.out _).mono ?_
    rintro e w6 ⟨rfl, hb6⟩
    have hbZ := hbox.trans ((hb05.trans (hb6.mono hb05.size)).mono hbox.size)
    clear h1 g1 hhb hb05 hb6 k0 k1 k2 k3 k4 k5 k6 k7 k8 hblk5
    go_wp2
    go_ret
    exact ⟨rfl, hbZ⟩
  | true =>
  have HSF := Lib.hid (styled_facts hs).1
  rw [hs] at hsty
  have HSTY := Lib.hid hsty
  clear hsty hs
  go_wp2_with fail
  refine (HSTY.out _).mono ?_
  rintro e w6 ⟨rfl, hb6⟩
  have hb06 := hb05.trans (hb6.mono hb05.size)
  have hbw6 := hbox.trans (hb06.mono hbox.size)
  have hblk6 : w6.heap[w.heap.size]? = _ := (hb06.block w.heap.size (blk_lt hhb)).trans hhb
  have hB6 : w.heap.size < w6.heap.size := blk_lt hblk6
  have hn1 : n1 ≤ 80 := by rw [← h1.len]; exact ha80
  have hn2 : n2 ≤ 80 := by rw [← g1.len]; exact hb80
  have Z1 := Lib.hid z1
  have Z2 := Lib.hid z2
  have HBLK := Lib.hid hblk6
  clear k0 k1 k2 k3 k4 k5 k6 k7 k8 hblk5 hb05 hb6 h1 g1 hhb z1 z2 hb06 hbox hblk6
  have hlit := OwnSteps.fresh (w := w6) (B := w6.heap.size) (Nat.le_refl _)
  have hbl := (Below.refl w6.heap.size w6).alloc (Nat.le_refl _) (.cells #[] 36)
  have hsrc := ((HH.out.below hbw6).more (Nat.le_of_lt hB6) |>.below hbl).src (G := fun k => k < w6.heap.size) (by simp) Z1.out (fun _ h => h)
  go_wp2_with (at_builtin; go_loud (refine wpList_append_steps rfl _ _ rfl w6.heap.size (fun k => k < w6.heap.size) _ _ _ rfl hlit A1 n1 c1 a rfl hsrc (by omega) (by simp) ?_))
  intro va w7 ha hg7 ho7
  have hb7 := hbl.grown hg7 (by simp) (fun k hk => by have : some w6.heap.size = some k := hk; injection this with this; omega)
  have hB7 := hb7.size
  have haA := ha.below ((Below.refl _ w7).alloc (Nat.le_refl _) (.cells #[.int .i64 5, .string ⟨#[]⟩, .slice none 0 0] 36))
  have hsr2 := src_one w7 (fun k => k < w6.heap.size) 5 ⟨#[]⟩
  have hbA := hb7.alloc hB7 (.cells #[.int .i64 5, .string ⟨#[]⟩, .slice none 0 0] 36)
  have hl7 : ∀ k, va.ownBlock = some k → w6.heap.size ≤ k := fun k hk => (ha.lt hk).1
  clear hlit hbl hsrc hg7 ho7
  go_wp2_with (at_builtin; go_loud (refine wpList_append_steps rfl _ _ rfl w6.heap.size (fun k => k < w6.heap.size) _ _ _ rfl haA (some ⟨w7.heap.size, 0, none⟩) 1 1 [resetS] rfl hsr2 (by omega) (by simp; omega) ?_))
  intro vb w8 hb8o hg8 ho8
  have hb8 := hbA.grown hg8 (by simp; omega) hl7
  have hB8 := hb8.size
  clear ha haA hsr2 hbA hl7 hg8 ho8 hb7 hB7
  have hsr3 := ((HG.out.below hbw6).more (Nat.le_of_lt hB6) |>.below hb8).src (G := fun k => k < w6.heap.size) hB8 Z2.out (fun _ h => h)
  have hl8 : ∀ k, vb.ownBlock = some k → w6.heap.size ≤ k := fun k hk => (hb8o.lt hk).1
  go_wp2_with (at_builtin; go_loud (refine wpList_append_steps rfl _ _ rfl w6.heap.size (fun k => k < w6.heap.size) _ _ _ rfl hb8o A2 n2 c2 b rfl hsr3 (by omega) hB8 ?_))
  intro vc w9 hc hg9 ho9
  have hb9 := hb8.grown hg9 hB8 hl8
  clear hb8o hsr3 hl8 hg9 ho9 hb8 hB8
  obtain ⟨al, hal⟩ : ∃ al, al = a ++ [resetS] ++ b := ⟨_, rfl⟩
  obtain ⟨m9, hm9⟩ : ∃ m9, m9 = n1 + 1 + n2 := ⟨_, rfl⟩
  have hc2 : OwnSteps w9 w6.heap.size (fun k => k < w6.heap.size) vc m9 al := by rw [hal, hm9]; simpa [Nat.add_assoc] using hc
  clear hc
  have HPL := Lib.hid (show played al = played b by rw [hal]; exact played_reset a b)
  have HFK := Lib.hid (show Fine al by rw [hal]; exact HFI.out)
  obtain ⟨A9, c9, rfl, hat9, _⟩ := hc2.at_
  have hm9b : m9 ≤ 161 := by omega
  have hat9' : StepsAt w9 w9.heap.size A9 m9 c9 al := hat9
  clear hal hc2 hat9
  have hbw9 := hbw6.trans (hb9.mono hbw6.size)
  have HG9 := Lib.hid ((HG.out.below hbw9).more hbw9.size)
  have HAT := Lib.hid (fun (W : World) (hW : Below w9.heap.size w9 W) => show StepsAt W W.heap.size A9 m9 c9 al from (hat9'.below hW).more hW.size)
  have HBT := Lib.hid (fun (W : World) (hW : Below w9.heap.size w9 W) => show StepsAt W W.heap.size A2 n2 c2 b from (HG9.out.below hW).more hW.size)
  have hblk9 : w9.heap[w.heap.size]? = _ := (hb9.block w.heap.size hB6).trans HBLK.out
  have HBOX := Lib.hid (fun (W : World) (hW : Below w9.heap.size w9 W) => box9 hblk9 (blk_lt hblk9) hW)
  obtain ⟨o1, ho1⟩ : ∃ o, o = mkB (drawD st (played b)) := ⟨_, rfl⟩
  obtain ⟨o2, ho2⟩ : ∃ o, o = mkB (htmlAll (bl (classOf ⟨#[]⟩)) (played b)) := ⟨_, rfl⟩
  obtain ⟨o3, ho3⟩ : ∃ o, o = mkB (drawD mdStyle (played b)) := ⟨_, rfl⟩
  obtain ⟨o4, ho4⟩ : ∃ o, o = (played b).length := ⟨_, rfl⟩
  have hr1 : ∀ (W : World) (A : Option Addr) (n c : Nat), (StepsAt W W.heap.size A n c al ∨ StepsAt W W.heap.size A n c b) → Calls Tryz.prog 10 #[.slice A n c, st.arg] W fun e w' => e = .returned (.string o1) ∧ Below W.heap.size W w' := by
    intro W A n c hW
    rcases hW with hW | hW
    · have := listRender_of A n c al st W hW HFK.out.cost (by have := HFK.out.len; omega) HFK.out.plain HFK.out.drawn HSF.out hnm
      rw [HPL.out] at this; rw [ho1]; exact this
    · have := listRender_of A n c b st W hW HFJ.out.cost (by have := HFJ.out.len; omega) HFJ.out.plain HFJ.out.drawn HSF.out hnm
      rw [ho1]; exact this
  have hr2 : ∀ (W : World) (A : Option Addr) (n c : Nat), (StepsAt W W.heap.size A n c al ∨ StepsAt W W.heap.size A n c b) → Calls Tryz.prog 16 #[.slice A n c, .string ⟨#[]⟩] W fun e w' => e = .returned (.string o2) ∧ Below W.heap.size W w' := by
    intro W A n c hW
    rcases hW with hW | hW
    · have := listHTML_any A n c al ⟨#[]⟩ W hW HFK.out.cost (by have := HFK.out.len; omega) HFK.out.plain HFK.out.html (by decide)
      rw [HPL.out] at this; rw [ho2]; exact this
    · have := listHTML_any A n c b ⟨#[]⟩ W hW HFJ.out.cost (by have := HFJ.out.len; omega) HFJ.out.plain HFJ.out.html (by decide)
      rw [ho2]; exact this
  have hr3 : ∀ (W : World) (A : Option Addr) (n c : Nat), (StepsAt W W.heap.size A n c al ∨ StepsAt W W.heap.size A n c b) → Calls Tryz.prog 14 #[.slice A n c, st.arg] W fun e w' => e = .returned (.string o3) ∧ Below W.heap.size W w' := by
    intro W A n c hW
    rcases hW with hW | hW
    · have := listMd_of A n c al st W hW HFK.out.cost (by have := HFK.out.len; omega) HFK.out.plain HFK.out.drawn hnm
      rw [HPL.out] at this; rw [ho3]; exact this
    · have := listMd_of A n c b st W hW HFJ.out.cost (by have := HFJ.out.len; omega) HFJ.out.plain HFJ.out.drawn hnm
      rw [ho3]; exact this
  have hr4 : ∀ (W : World) (A : Option Addr) (n c : Nat), (StepsAt W W.heap.size A n c al ∨ StepsAt W W.heap.size A n c b) → Calls Tryz.prog 17 #[.slice A n c] W fun e w' => e = .returned (.int .i64 o4) ∧ Below W.heap.size W w' := by
    intro W A n c hW
    rcases hW with hW | hW
    · have := listLength_any A n c al W hW (by have := HFK.out.cost; omega) (by have := HFK.out.len; omega) HFK.out.plain
      rw [HPL.out] at this; rw [ho4]; exact this
    · have := listLength_any A n c b W hW (by have := HFJ.out.cost; omega) (by have := HFJ.out.len; omega) HFJ.out.plain
      rw [ho4]; exact this
  unfold StyleV.arg at hr1 hr3
  have HR1 := Lib.hid hr1
  have HR2 := Lib.hid hr2
  have HR3 := Lib.hid hr3
  have HR4 := Lib.hid hr4
  have hcur := (Below.refl w9.heap.size w9).drew
  clear hr1 hr2 hr3 hr4 ho1 ho2 ho3 ho4 hblk9 hat9' hb9 hm9
  go_wp2_with fail
  go_region_held3 (fun w' => w'.cell? ⟨w.heap.size, 0, none⟩ = some (.int .i64 st.fmt) ∧ w'.cell? ⟨w.heap.size, 1, none⟩ = some (.string st.single) ∧ w'.cell? ⟨w.heap.size, 2, none⟩ = some (.string st.top) ∧ w'.cell? ⟨w.heap.size, 3, none⟩ = some (.string st.first) ∧ w'.cell? ⟨w.heap.size, 4, none⟩ = some (.string st.middle) ∧ w'.cell? ⟨w.heap.size, 5, none⟩ = some (.string st.vert) ∧ w'.cell? ⟨w.heap.size, 6, none⟩ = some (.string st.bottom) ∧ w'.cell? ⟨w.heap.size, 7, none⟩ = some (.string st.newline) ∧ w'.cell? ⟨w.heap.size, 8, none⟩ = some (.string st.pfx) ∧ Below w9.heap.size w9 w') (first | exact HBOX.out _ hcur | exact HBOX.out _ (Below.refl w9.heap.size w9))
    (first
      | (go_at_call 10; refine (HR1.out _ _ _ _ (by first | exact Or.inl (HAT.out _ hcur) | exact Or.inr (HBT.out _ hcur))).mono ?_; rintro e wn ⟨rfl, hbn⟩; have hcur := hcur.trans (hbn.mono hcur.size))
      | (go_at_call 16; refine (HR2.out _ _ _ _ (by first | exact Or.inl (HAT.out _ hcur) | exact Or.inr (HBT.out _ hcur))).mono ?_; rintro e wn ⟨rfl, hbn⟩; have hcur := hcur.trans (hbn.mono hcur.size))
      | (go_at_call 14; refine (HR3.out _ _ _ _ (by first | exact Or.inl (HAT.out _ hcur) | exact Or.inr (HBT.out _ hcur))).mono ?_; rintro e wn ⟨rfl, hbn⟩; have hcur := hcur.trans (hbn.mono hcur.size))
      | (go_at_call 17; refine (HR4.out _ _ _ _ (by first | exact Or.inl (HAT.out _ hcur) | exact Or.inr (HBT.out _ hcur))).mono ?_; rintro e wn ⟨rfl, hbn⟩; have hcur := hcur.trans (hbn.mono hcur.size))
      | (go_at_call 13; refine (alive_any _).mono ?_; rintro e wn ⟨rfl, hbn⟩; have hcur := hcur.trans (hbn.mono hcur.size)))
  have hbZ := hbw9.trans (hcur.mono hbw9.size)
  go_wp2_with fail
  go_ret
  exact ⟨rfl, hbZ⟩
end Go.Proofs.YtccbjmmggolhnaaGreatDoor
