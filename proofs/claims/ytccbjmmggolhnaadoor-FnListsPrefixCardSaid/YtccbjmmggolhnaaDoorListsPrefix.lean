/- Walk of laws.FnListsPrefix: it answers true and writes nothing that was there. No condition. -/
import Derived.Test.YtccbjmmggolhnaaDoorLt
import Derived.Test.YtccbjmmggolhnaaDoorLtSize
import Derived.Deep.RegionHeld3
import Derived.Deep.QuietTactic
import Derived.BigQuiet
import Derived.StillTailTactics
namespace Go.Proofs.YtccbjmmggolhnaaDoor
open Go.RowKit
set_option linter.unusedVariables false


/-- A style without its prefix. -/
def bareOf (st : StyleV) : StyleV := { st with pfx := ⟨#[]⟩ }
theorem bare_small {st : StyleV} (h : styleSmall st) : styleSmall (bareOf st) := ⟨h.1, h.2.1, h.2.2.1, h.2.2.2.1, h.2.2.2.2.1, h.2.2.2.2.2.1, h.2.2.2.2.2.2.1, h.2.2.2.2.2.2.2.1, Nat.zero_le _⟩
theorem bare_same {l : List Step} {st : StyleV} (hr : rightB l = true) (hs : styledB st = true) : drawnT (bareOf st) (played l) = drawD (bareOf st) (played l) := by
  obtain ⟨_, h2, h3, _⟩ := styled_facts hs
  exact drawn_eq (st := bareOf st) h2 h3 (right_simple hr)
theorem bare_ok {st : StyleV} (h : OkStyle st) : OkStyle (bareOf st) := ⟨h.single, h.top, h.first, h.middle, h.vert, h.bottom, okL_nil, h.newline⟩
theorem all_elem {st : StyleV} {items : List (ByteArray × Nat)} (hst : styleSmall st) (hit : itemsSmall items) : ∀ y ∈ allT st items, y.length ≤ 6000000 := by
  intro y hy
  unfold allT at hy
  obtain ⟨L, hL, hy⟩ := List.mem_flatten.1 hy
  obtain ⟨i, x, hx, rfl⟩ := mapK_mem hL
  exact (lines_bound (items := items) (i := i) hst (hit.2 x hx).2 (hit.2 x hx).1).2 y hy
theorem set_step {α : Type} (f : α → α) {T : List α} {k : Nat} {y : α} (h : T[k]? = some y) : ((T.take k).map f ++ T.drop k).set k (f y) = (T.take (k + 1)).map f ++ T.drop (k + 1) := by
  have hk : k < T.length := (List.getElem?_eq_some_iff.1 h).1
  have hl : ((T.take k).map f).length = k := by rw [List.length_map, List.length_take]; omega
  rw [List.set_append, if_neg (by omega), hl, Nat.sub_self, drop_step h, List.set_cons_zero, take_step h, List.map_append, List.append_assoc]
  rfl
theorem at_step {α : Type} (f : α → α) {T : List α} {k : Nat} {y : α} (h : T[k]? = some y) : ((T.take k).map f ++ T.drop k)[k]? = some y := by
  have hk : k < T.length := (List.getElem?_eq_some_iff.1 h).1
  have hl : ((T.take k).map f).length = k := by rw [List.length_map, List.length_take]; omega
  rw [List.getElem?_append_right (by omega), hl, Nat.sub_self, drop_step h]
  rfl
theorem len_step {α : Type} (f : α → α) (T : List α) (k : Nat) : ((T.take k).map f ++ T.drop k).length = T.length := by
  rw [List.length_append, List.length_map, ← List.length_append, List.take_append_drop]

set_option maxRecDepth 100000 in
set_option maxHeartbeats 4000000 in
theorem sameTexts_any (A1 A2 : Option Addr) (n c1 c2 : Nat) (L : List (List UInt8)) (w : World) (h1 : StrsAt w w.heap.size A1 n c1 (L.map mkB)) (h2 : StrsAt w w.heap.size A2 n c2 (L.map mkB)) :
    Calls Tryd.prog 19 #[.slice A1 n c1, .slice A2 n c2] w fun e w' => e = .returned (.bool true) ∧ Below w.heap.size w w' := by
  have hn : n ≤ 9223372036854775807 := by have := Rd.cap h1; have := Rd.small h1; omega
  go_enter Tryd.func19, Tryd.ntmps19
  go_wp2
  go_loopw [13] (fun v13 wr => ∃ k : Nat, k ≤ n ∧ v13 = .int .i64 k ∧ Below w.heap.size w wr) (fun v13 _ => n - (intOf v13).toNat)
  case atStart => exact ⟨0, Nat.zero_le _, rfl, Below.refl _ _⟩
  case round =>
    obtain ⟨k, hk, rfl, hbw⟩ := hrel
    by_cases hlt : k < n
    · obtain ⟨a1, y, rfl, _, hy, hc1⟩ := line_at (StrsAt.below h1 hbw) hlt
      obtain ⟨a2, z, rfl, _, hz, hc2⟩ := line_at (StrsAt.below h2 hbw) hlt
      have hyz : z = y := by rw [hz] at hy; injection hy
      subst hyz
      obtain ⟨yb, hyb⟩ : ∃ yb, yb = mkB z := ⟨_, rfl⟩
      rw [← hyb] at hc1 hc2
      have hki : (k : Int) < (n : Int) := by omega
      clear hy hz hyb h1 h2
      go_wp2
      go_quiet (fail)
      go_wp2
      go_roundw
      case rel => exact ⟨k + 1, by omega, by go_num, below_drewN hbw _⟩
      case measure => simp [intOf]; omega
    · have hki : ¬ (k : Int) < (n : Int) := by omega
      go_wp2
      go_ret
      exact ⟨rfl, hbw⟩

set_option maxRecDepth 100000 in
set_option maxHeartbeats 16000000 in
theorem listsPrefix_any (A : Option Addr) (n c : Nat) (l : List Step) (st : StyleV) (w : World) (h : StepsAt w w.heap.size A n c l) (hnm : st.nm = ⟨#[]⟩) :
    Calls Tryd.prog 4 #[.slice A n c, st.arg] w fun e w' => e = .returned (.bool true) ∧ Below w.heap.size w w' := by
  unfold StyleV.arg
  have hbox := (Below.refl w.heap.size w).alloc (Nat.le_refl _) (.cells #[.int .i64 st.fmt, .string st.single, .string st.top, .string st.first, .string st.middle, .string st.vert, .string st.bottom, .string st.newline, .string st.pfx] 35)
  have h1 := (h.below hbox).more hbox.size
  have hhb : (w.alloc (.cells #[.int .i64 st.fmt, .string st.single, .string st.top, .string st.first, .string st.middle, .string st.vert, .string st.bottom, .string st.newline, .string st.pfx] 35)).heap[w.heap.size]? = some (.cells #[.int .i64 st.fmt, .string st.single, .string st.top, .string st.first, .string st.middle, .string st.vert, .string st.bottom, .string st.newline, .string st.pfx] 35 (0, 0)) := heap_alloc_new w _
  obtain ⟨w0, hw0⟩ : ∃ w0, w0 = w.alloc (.cells #[.int .i64 st.fmt, .string st.single, .string st.top, .string st.first, .string st.middle, .string st.vert, .string st.bottom, .string st.newline, .string st.pfx] 35) := ⟨_, rfl⟩
  have hlt0 : w.heap.size < w0.heap.size := by rw [hw0]; simp
  clear h
  cases hf : fitStepsB l with
  | false =>
    have HFS := Lib.hid hf
    clear hf
    go_enter Tryd.func4, Tryd.ntmps4
    go_wp2_with fail
    rw [← hw0] at hbox h1 hhb ⊢
    clear hw0
    refine (fitSteps_any A n c l _ h1).mono ?_
    rintro e w1 ⟨rfl, hb1⟩
    rw [HFS.out]
    have hb2 := hbox.trans (hb1.mono hbox.size)
    clear h1 hhb hb1
    go_wp2
    go_ret
    exact ⟨rfl, hb2⟩
  | true =>
  have HFS := Lib.hid hf
  clear hf
  have hfs := fun W => fitStyle_any st W
  unfold StyleV.arg at hfs
  obtain ⟨fb, hfb⟩ : ∃ fb, fb = fitStyleB st := ⟨_, rfl⟩
  rw [← hfb] at hfs
  have HFT := Lib.hid hfs
  clear hfs hfb
  go_enter Tryd.func4, Tryd.ntmps4
  go_wp2_with fail
  rw [← hw0] at hbox h1 hhb ⊢
  clear hw0
  refine (fitSteps_any A n c l _ h1).mono ?_
  rintro e w1 ⟨rfl, hb1⟩
  rw [HFS.out]
  have hblk1 : w1.heap[w.heap.size]? = _ := (hb1.block w.heap.size (blk_lt hhb)).trans hhb
  have k0 := blk_cell hblk1 0
  have k1 := blk_cell hblk1 1
  have k2 := blk_cell hblk1 2
  have k3 := blk_cell hblk1 3
  have k4 := blk_cell hblk1 4
  have k5 := blk_cell hblk1 5
  have k6 := blk_cell hblk1 6
  have k7 := blk_cell hblk1 7
  have k8 := blk_cell hblk1 8
  go_wp2_with fail
  refine (HFT.out _).mono ?_
  rintro e w2 ⟨rfl, hb2⟩
  have hb02 := hb1.trans (hb2.mono hb1.size)
  have hbw2 := hbox.trans (hb02.mono hbox.size)
  have h2 := (h1.below hb02).more hb02.size
  have hblk2 : w2.heap[w.heap.size]? = _ := (hb2.block w.heap.size (blk_lt hblk1)).trans hblk1
  have hlt2 : w.heap.size < w2.heap.size := blk_lt hblk2
  clear k0 k1 k2 k3 k4 k5 k6 k7 k8 hblk1 hhb h1 hb1 hb2 HFT
  cases fb with
  | false =>
    go_wp2
    go_ret
    exact ⟨rfl, hbw2⟩
  | true =>
  cases hr : rightB l with
  | false =>
    have HR := Lib.hid hr
    clear hr
    go_wp2_with fail
    refine (right_any A n c l _ h2).mono ?_
    rintro e w4 ⟨rfl, hb4⟩
    rw [HR.out]
    have hbZ := hbw2.trans (hb4.mono hbw2.size)
    go_wp2
    go_ret
    exact ⟨rfl, hbZ⟩
  | true =>
  have HR := Lib.hid hr
  have HFI := Lib.hid (Fine.of_right hr)
  have hsty := fun W => styled_any st W
  unfold StyleV.arg at hsty
  have HBOX := Lib.hid (fun (W : World) (hW : Below w2.heap.size w2 W) => box9 hblk2 hlt2 hW)
  go_wp2_with fail
  refine (right_any A n c l _ h2).mono ?_
  rintro e w4 ⟨rfl, hb4⟩
  rw [HR.out]
  have h4 := (h2.below hb4).more hb4.size
  obtain ⟨k0, k1, k2, k3, k4, k5, k6, k7, k8, _⟩ := HBOX.out _ hb4
  cases hs : styledB st with
  | false =>
    rw [hs] at hsty
    have HSTY := Lib.hid hsty
    clear hsty hs hr
    go_wp2_with fail
    refine (HSTY.out _).mono ?_
    rintro e w5 ⟨rfl, hb5⟩
    have hbZ := hbw2.trans ((hb4.trans (hb5.mono hb4.size)).mono hbw2.size)
    clear k0 k1 k2 k3 k4 k5 k6 k7 k8
    go_wp2
    go_ret
    exact ⟨rfl, hbZ⟩
  | true =>
  have HSF := Lib.hid (styled_facts hs).1
  have HOK := Lib.hid (styled_ok hs)
  have HD1 := Lib.hid (bare_same hr hs)
  have HD2 := Lib.hid (draws_same hr hs)
  have HSI := Lib.hid (right_simple hr)
  rw [hs] at hsty
  have HSTY := Lib.hid hsty
  clear hsty hs hr
  go_wp2_with fail
  refine (HSTY.out _).mono ?_
  rintro e w5 ⟨rfl, hb5⟩
  have hb25 := hb4.trans (hb5.mono hb4.size)
  have h5 := (h2.below hb25).more hb25.size
  clear k0 k1 k2 k3 k4 k5 k6 k7 k8 h4 hb5 hb4 HSTY
  go_wp2_with fail
  refine (played_any A n c l _ h5 (by have := HFI.out.cost; omega)).mono ?_
  rintro e w6 ⟨v6, rfl, hown6, hb6⟩
  obtain ⟨A6, c6, rfl, _⟩ := own_rd hown6
  have hb26 := hb25.trans (hb6.mono hb25.size)
  have h6 := (h2.below hb26).more hb26.size
  obtain ⟨mn, hmn⟩ : ∃ mn, mn = (played l).length := ⟨_, rfl⟩
  rw [← hmn]
  have HMN := Lib.hid hmn
  clear hmn hown6 hb6 h5 hb25
  by_cases hm0 : mn = 0
  · subst hm0
    have hbZ := hbw2.trans (hb26.mono hbw2.size)
    go_wp2
    go_ret
    exact ⟨rfl, hbZ⟩
  have hm0b : ((mn : Int) == 0) = false := by rw [beq_eq_false_iff_ne]; omega
  have HNE := Lib.hid (show played l ≠ [] by intro e; apply hm0; rw [HMN.out, e]; rfl)
  obtain ⟨k0, k1, k2, k3, k4, k5, k6, k7, k8, _⟩ := HBOX.out _ hb26
  have hbB := hb26.alloc hb26.size (.cells #[.int .i64 st.fmt, .string st.single, .string st.top, .string st.first, .string st.middle, .string st.vert, .string st.bottom, .string st.newline, .string ⟨#[]⟩] 35)
  have hbBW : Below w6.heap.size w6 (w6.alloc (.cells #[.int .i64 st.fmt, .string st.single, .string st.top, .string st.first, .string st.middle, .string st.vert, .string st.bottom, .string st.newline, .string ⟨#[]⟩] 35)) := (Below.refl _ w6).alloc (Nat.le_refl _) _
  have hbb : (w6.alloc (.cells #[.int .i64 st.fmt, .string st.single, .string st.top, .string st.first, .string st.middle, .string st.vert, .string st.bottom, .string st.newline, .string ⟨#[]⟩] 35)).heap[w6.heap.size]? = some (.cells #[.int .i64 st.fmt, .string st.single, .string st.top, .string st.first, .string st.middle, .string st.vert, .string st.bottom, .string st.newline, .string ⟨#[]⟩] 35 (0, 0)) := heap_alloc_new w6 _
  have hB7 := (h6.below hbBW).more hbBW.size
  obtain ⟨w7, hw7⟩ : ∃ w7, w7 = w6.alloc (.cells #[.int .i64 st.fmt, .string st.single, .string st.top, .string st.first, .string st.middle, .string st.vert, .string st.bottom, .string st.newline, .string ⟨#[]⟩] 35) := ⟨_, rfl⟩
  have j0 := blk_cell hbb 0
  have j1 := blk_cell hbb 1
  have j2 := blk_cell hbb 2
  have j3 := blk_cell hbb 3
  have j4 := blk_cell hbb 4
  have j5 := blk_cell hbb 5
  have j6 := blk_cell hbb 6
  have j7 := blk_cell hbb 7
  have j8 := blk_cell hbb 8
  have T1 : ∃ T, T = allT (bareOf st) (played l) := ⟨_, rfl⟩
  obtain ⟨T, hT⟩ := T1
  have hd1 := listRender_of A n c l (bareOf st) w7 (by rw [hw7]; exact hB7) HFI.out.cost (by have := HFI.out.len; omega) HFI.out.plain HFI.out.drawn (bare_small HSF.out) hnm
  unfold StyleV.arg bareOf at hd1
  dsimp only at hd1
  obtain ⟨o1, ho1⟩ : ∃ o, o = mkB (drawD (bareOf st) (played l)) := ⟨_, rfl⟩
  have HC1 := Lib.hid (show Calls Tryd.prog 18 _ w7 (fun e w' => e = .returned (.string o1) ∧ Below w7.heap.size w7 w') from by rw [ho1]; exact hd1)
  have HT1 := Lib.hid (show linesL (runes o1) = T by rw [ho1, hT, ← HD1.out]; exact drawn_lines (bare_ok HOK.out) HSI.out HNE.out)
  have hTs1 : T.length ≤ 177760 := by rw [hT]; exact all_tight (bare_small HSF.out) HR.out
  have HTE := Lib.hid (show ∀ y ∈ T, y.length ≤ 6000000 by rw [hT]; exact all_elem (bare_small HSF.out) HFI.out.drawn)
  have hTne : 0 < T.length := by
    have := all_ne (st := bareOf st) HNE.out
    rw [← hT] at this
    exact List.length_pos_iff.2 this
  have ho1z : o1.size ≤ 1000000000 := by
    rw [ho1, ← HD1.out]
    show (mkB _).size ≤ _
    rw [← bl_size]
    exact drawn_size (bare_small HSF.out) HR.out
  have HTA := Lib.hid (show T.map (bl st.pfx ++ ·) = allT st (played l) by rw [hT]; exact (all_prefix st (played l)).symm)
  clear hd1 ho1 hT h6
  go_wp2_with fail
  rw [← hw7] at hbB hbb hB7 ⊢
  clear hw7
  refine HC1.out.mono ?_
  rintro e w8 ⟨rfl, hb8⟩
  clear j0 j1 j2 j3 j4 j5 j6 j7 j8 HC1
  go_wp2_with fail
  refine (lines_any o1 _ ho1z).mono ?_
  rintro e w9 ⟨v9, rfl, hown9, hb9⟩
  rw [HT1.out] at hown9
  have hb28 := hbB.trans (hb8.mono hbB.size)
  have hb29 := hb28.trans (hb9.mono hb28.size)
  have hpz : st.pfx.size ≤ 20 := HSF.out.2.2.2.2.2.2.2.2
  obtain ⟨N, hN⟩ : ∃ N, N = T.length := ⟨_, rfl⟩
  unfold OwnLines at hown9
  rw [← hN] at hown9 hTs1 hTne
  obtain ⟨g, cap, rfl⟩ : ∃ g cap, v9 = .slice (some ⟨g, 0, none⟩) N cap := by
    rcases hown9.2 with ⟨_, h00⟩ | ⟨g, cap, cur, hv, _⟩
    · omega
    · exact ⟨g, cap, hv⟩
  have hgB := own_blk_at hown9
  have HN := Lib.hid hN
  clear hN
  go_wp2_with fail
  go_loopw [38] (fun v38 wr => ∃ k : Nat, k ≤ N ∧ v38 = .int .i64 k ∧ wr.ownsRow w8.heap.size 9 1 (.slice (some ⟨g, 0, none⟩) N cap) N ((((T.take k).map (bl st.pfx ++ ·) ++ T.drop k).map mkB).map Value.string) ∧ Below w8.heap.size w8 wr) (fun v38 _ => N - (intOf v38).toNat)
  case atStart => exact ⟨0, Nat.zero_le _, rfl, by simpa using hown9, hb9⟩
  case round =>
    obtain ⟨k, hk, rfl, hown, hbr⟩ := hrel
    clear hown9 hb9
    by_cases hlt : k < N
    · obtain ⟨y, hy⟩ : ∃ y, T[k]? = some y := ⟨_, List.getElem?_eq_getElem (by rw [← HN.out]; exact hlt)⟩
      have hyz := HTE.out y (List.mem_of_getElem? hy)
      have hki : (k : Int) < (N : Int) := by omega
      have hcell : wr.cell? ⟨g, k, none⟩ = some (.string (mkB y)) := by
        rw [hown.cellAt k (by omega), List.getElem?_map, List.getElem?_map, at_step _ hy]
        rfl
      obtain ⟨yb, hyb⟩ : ∃ yb, yb = mkB y := ⟨_, rfl⟩
      rw [← hyb] at hcell
      have hybz : yb.size ≤ 6000000 := by rw [hyb, ← bl_size]; exact hyz
      have hset := own_set (k := k) hown (.string (st.pfx ++ yb))
      have hset2 : (wr.setCell ⟨g, k, none⟩ (.string (st.pfx ++ yb))).ownsRow w8.heap.size 9 1 (.slice (some ⟨g, 0, none⟩) N cap) N ((((T.take (k + 1)).map (bl st.pfx ++ ·) ++ T.drop (k + 1)).map mkB).map Value.string) := by
        rw [← set_step _ hy, List.map_set, List.map_set]
        have e : mkB (bl st.pfx ++ y) = st.pfx ++ yb := by rw [hyb, ← mkB_app, mkB_bl]
        rw [e]
        exact hset
      have hfr := own_frozen (k := k) hown
      have hbS := hbr.setCell (p := ⟨g, k, none⟩) hgB (.string (st.pfx ++ yb))
      have hbW := hb28.trans (hbr.mono hb28.size)
      obtain ⟨_, _, _, _, _, _, _, _, k8, _⟩ := HBOX.out _ hbW
      have hsum : ¬ (9223372036854775807 < st.pfx.size + yb.size) := by omega
      clear hy hyb hyz hown hbr hset hbW
      go_wp2_with fail
      go_region_law (fail)
      all_goals
        go_wp2_with fail
        go_roundw
        case rel => exact ⟨k + 1, by omega, by go_num, own_drew hset2, hbS.drew⟩
        case measure => simp [intOf]; omega
    · have hki : ¬ (k : Int) < (N : Int) := by omega
      have hkN : k = N := by omega
      subst hkN
      have hown2 : OwnLines wr w8.heap.size (.slice (some ⟨g, 0, none⟩) k cap) (allT st (played l)) := by
        unfold OwnLines
        rw [List.take_of_length_le (by rw [← HN.out]; exact Nat.le_refl _), List.drop_of_length_le (by rw [← HN.out]; exact Nat.le_refl _), List.append_nil, HTA.out] at hown
        have hl : (allT st (played l)).length = k := by rw [← HTA.out, List.length_map, HN.out]
        rw [hl]
        exact hown
      have hbW := hb28.trans (hbr.mono hb28.size)
      obtain ⟨k0, k1, k2, k3, k4, k5, k6, k7, k8, _⟩ := HBOX.out _ hbW
      have hatr := (h2.below hbW).more hbW.size
      obtain ⟨o2, ho2⟩ : ∃ o, o = mkB (drawD st (played l)) := ⟨_, rfl⟩
      have hd2 := listRender_of A n c l st wr hatr HFI.out.cost (by have := HFI.out.len; omega) HFI.out.plain HFI.out.drawn HSF.out hnm
      rw [show (⟨(drawD st (played l)).toArray⟩ : ByteArray) = o2 from ho2.symm] at hd2
      unfold StyleV.arg at hd2
      have HC2 := Lib.hid hd2
      have HT2 := Lib.hid (show linesL (runes o2) = allT st (played l) by rw [ho2, ← HD2.out]; exact drawn_lines HOK.out HSI.out HNE.out)
      have ho2z : o2.size ≤ 1000000000 := by
        rw [ho2, ← HD2.out]
        show (mkB _).size ≤ _
        rw [← bl_size]
        exact drawn_size HSF.out HR.out
      clear hd2 ho2 hown hbr hatr hb28 hb8
      go_wp2_with fail
      refine HC2.out.mono ?_
      rintro e wa ⟨rfl, hba⟩
      have hownA : OwnLines wa w8.heap.size (.slice (some ⟨g, 0, none⟩) k cap) (allT st (played l)) := own_below hown2 hba (Nat.le_refl _)
      have hbA := hbW.trans (hba.mono hbW.size)
      clear k0 k1 k2 k3 k4 k5 k6 k7 k8 HC2 hown2 hba hbW
      go_wp2_with fail
      refine (lines_any o2 _ ho2z).mono ?_
      rintro e wb ⟨vb, rfl, hownB, hbb'⟩
      rw [HT2.out] at hownB
      have hownA2 : OwnLines wb w8.heap.size (.slice (some ⟨g, 0, none⟩) k cap) (allT st (played l)) := own_below hownA hbb' (Nat.le_refl _)
      have hbB2 := hbA.trans (hbb'.mono hbA.size)
      obtain ⟨Ab, cb, rfl, hstB⟩ := hownB.rd
      obtain ⟨Ag, cg, hve, hstA⟩ := hownA2.rd
      have hlk : (allT st (played l)).length = k := by rw [← HTA.out, List.length_map, HN.out]
      rw [hlk] at hstB hve hstA ⊢
      injection hve with e1 e2 e3
      subst e1 e3
      have hsame := sameTexts_any Ab (some ⟨g, 0, none⟩) k cb cap (allT st (played l)) wb hstB hstA
      have HSAME := Lib.hid hsame
      clear e2 hownA hownB hownA2 hstB hstA hsame hbA hbb' hlk
      go_wp2_with fail
      refine HSAME.out.mono ?_
      rintro e wc2 ⟨rfl, hbc2⟩
      have hbC := hbB2.trans (hbc2.mono hbB2.size)
      go_wp2_with fail
      refine (alive_any _).mono ?_
      rintro e wd ⟨rfl, hbd⟩
      have hbZ := hbw2.trans ((hbC.trans (hbd.mono hbC.size)).mono hbw2.size)
      go_wp2
      go_ret
      exact ⟨rfl, hbZ⟩
end Go.Proofs.YtccbjmmggolhnaaDoor
