/- Walk of the list's renderItem: what it makes of an item. Condition: sizes below the bounds that are named. -/
import Derived.Test.YtdkpacgbniclhaaGreatDoorDraw
import Derived.Deep.RegionHeld3
namespace Go.Proofs.YtdkpacgbniclhaaGreatDoor
open Go.RowKit

theorem map_bl_inj : ∀ a b : List ByteArray, a.map bl = b.map bl → a = b
  | [], [], _ => rfl
  | [], _ :: _, h => by simp at h
  | _ :: _, [], h => by simp at h
  | x :: a, y :: b, h => by
    simp only [List.map_cons, List.cons.injEq] at h
    rw [bl_ext h.1, map_bl_inj a b h.2]
theorem linesOf_map (st : StyleV) (t : ByteArray) : (linesOf st t).map bl = splitL [10] (bl (textD st t)) := by
  unfold linesOf
  rw [List.map_map]
  conv => rhs; rw [← List.map_id (splitL [10] (bl (textD st t)))]
  apply List.map_congr_left
  intro z _
  rfl

def HintV.cells (h : HintV) : Array Value := #[.bool h.top, .bool h.first, .bool h.only, .bool h.last, .bool h.bottom]

section
variable (B b ob q : Nat) (st : StyleV) (a : Int) (css : ByteArray) (A : Option Addr) (n c : Nat) (ptrs : List Nat) (items : List (ByteArray × Nat)) (lv : Nat) (ex : List (Nat × Obj))

set_option maxRecDepth 100000 in
set_option maxHeartbeats 16000000 in
theorem drawItem_any (i p : Nat) (x : ByteArray × Nat) (acc : List UInt8) (w : World) (hs : styleSmall st) (hn : n = items.length) (hn2 : n ≤ 2000) (hx : items[i]? = some x) (hp : ptrs[i]? = some p) (hx1 : x.1.size ≤ 1000) (hx2 : x.2 ≤ 300) (h : RS w w B b ob q st a css (.slice A n c) ptrs items lv ex acc) (hacc : acc.length + 600000000 ≤ 140737488355328) :
    Calls Tryz.prog 76 #[.pointer (some ⟨b, 0, none⟩), .pointer (some ⟨ob, 0, none⟩), .int .i64 i, .pointer (some ⟨p, 0, none⟩), (hintOf items i x.2).val] w fun e w' => ∃ acc2, e = .returned (.tuple #[]) ∧ RS w w' B b ob q st a css (.slice A n c) ptrs items lv ex acc2 ∧ Hid (acc2 = acc ++ itemD st items i x) ∧ acc2.length ≤ acc.length + 600000000 := by
  obtain ⟨tx, l⟩ := x
  dsimp only at hx1 hx2
  have HST := Lib.hid hs
  have HN := Lib.hid hn
  have HX := Lib.hid hx
  have HP := Lib.hid hp
  have hin : i < n := by rw [hn]; exact (List.getElem?_eq_some_iff.1 hx).1
  have hfmt : st.fmt = 0 := hs.1
  have hnlz : st.newline.size ≤ 20 := hs.2.2.2.2.2.2.2.1
  obtain ⟨hv, hhv⟩ : ∃ hv, hv = hintOf items i l := ⟨_, rfl⟩
  have HHV := Lib.hid hhv
  obtain ⟨td, htd⟩ : ∃ td, td = textD st tx := ⟨_, rfl⟩
  have htdz : td.size ≤ 20000 := by rw [htd]; exact textD_size hs hx1
  have HTD := Lib.hid htd
  obtain ⟨ls, hls⟩ : ∃ ls, ls = linesOf st tx := ⟨_, rfl⟩
  have hlsn : ls.length ≤ 20001 := by
    rw [hls]; unfold linesOf; rw [List.length_map, ← htd]
    have := (splitL_len 10 (bl td)).1
    rw [bl_size] at this
    omega
  have hlsz : ∀ y ∈ ls, y.size ≤ 20000 := by
    intro y hy
    rw [hls] at hy
    unfold linesOf at hy
    rw [← htd] at hy
    obtain ⟨z, hz, rfl⟩ := List.mem_map.1 hy
    have := (splitL_len 10 (bl td)).2 z hz
    rw [bl_size] at this
    show (ByteArray.mk z.toArray).size ≤ 20000
    rw [mk_size]
    omega
  have HLZ := Lib.hid hlsz
  have HLS := Lib.hid hls
  have HLM := Lib.hid (show ls.map bl = splitL [10] (bl td) by rw [hls, htd]; exact linesOf_map _ _)
  rw [← hhv]
  clear hs hn hx hp hhv htd hls hlsz
  unfold HintV.val
  have hr0 := h.push hv.cells
  unfold HintV.cells at hr0
  clear h
  go_enter Tryz.func76, Tryz.ntmps76
  go_upto_if 14 with (fail)
  go_cut [] (fun wx => ∃ acc1, RS w wx B b ob q st a css (.slice A n c) ptrs items lv ((w.heap.size, .cells hv.cells 112 (0, 0)) :: ex) acc1 ∧ Hid (acc1 = acc ++ (if 0 < i then [10] else [])) ∧ acc1.length ≤ acc.length + 1)
  case first =>
    by_cases hi0 : 0 < i
    · have hi0i : (0 : Int) < (i : Int) := by omega
      go_wp2_with fail
      refine (rs_rune 10 [10] (by decide) (by decide) (by decide) (by decide) hr0 (by omega)).mono ?_
      rintro e w2 ⟨acc1, ⟨r1, rfl⟩, h1, HA1, hl1⟩
      go_wp2_with fail
      go_meet
      exact ⟨acc1, h1, Lib.hid (by rw [HA1.out, if_pos hi0]), by omega⟩
    · have hi00 : i = 0 := by omega
      subst hi00
      go_wp2_with fail
      go_meet
      exact ⟨acc, hr0, Lib.hid (by rw [if_neg (by omega), List.append_nil]), by omega⟩
  case rest =>
    obtain ⟨acc1, h1, HA1, hl1⟩ := hcut
    clear hr0
    obtain ⟨wo, rfl⟩ : ∃ x : World, x = wc := ⟨_, rfl⟩
    go_upto_region 3 with (fail)
    go_cut [10] (fun v10 wx => v10 = .string tx ∧ RS w wx B b ob q st a css (.slice A n c) ptrs items lv ((w.heap.size, .cells hv.cells 112 (0, 0)) :: ex) acc1)
    case first =>
      have hc5 : wo.cell? ⟨b, 5, none⟩ = some (.pointer (some ⟨q, 0, none⟩)) := h1.c 5
      have hq0 : wo.cell? ⟨q, 0, none⟩ = some (.int .i64 0) := by rw [h1.s 0]; show some (Value.int .i64 st.fmt) = _; rw [hfmt]
      have hp1 : wo.cell? ⟨p, 1, none⟩ = some (.string tx) := (h1.hs.list.cellp HP.out HX.out).2
      go_wp2_with fail
      go_region_held3 (fun w' => w'.cell? ⟨b, 5, none⟩ = some (.pointer (some ⟨q, 0, none⟩)) ∧ w'.cell? ⟨q, 0, none⟩ = some (.int .i64 0) ∧ w'.cell? ⟨p, 1, none⟩ = some (.string tx)) (first | exact ⟨hc5, hq0, hp1⟩)
        (first | (go_at_call 99; refine (fmt_any tx _).mono ?_; rintro e w1 ⟨rfl, rfl⟩))
      all_goals (go_wp2_with fail; go_meet; exact ⟨rfl, h1.drew⟩)
    case rest =>
      obtain ⟨rfl, h2⟩ := hcut
      clear h1
      obtain ⟨wp, rfl⟩ : ∃ x : World, x = wc := ⟨_, rfl⟩
      obtain ⟨cb, hcb⟩ : ∃ cb : Bool, cb = (decide (0 ≤ zfind tx ⟨#[10]⟩ 0) && !(st.newline.toList == [10])) := ⟨_, rfl⟩
      have HCB := Lib.hid hcb
      have HT := Lib.hid (show td = if cb = true then ⟨(replL (bl ⟨#[10]⟩) (bl st.newline) (bl tx)).toArray⟩ else tx by
        rw [HTD.out, hcb]
        unfold textD
        have e : (0 ≤ zfind tx ⟨#[10]⟩ 0 ∧ bl st.newline ≠ [10]) ↔ (decide (0 ≤ zfind tx ⟨#[10]⟩ 0) && !(st.newline.toList == [10])) = true := by
          rw [Bool.and_eq_true, decide_eq_true_iff, Bool.not_eq_true', beq_eq_false_iff_ne, Lib.toList_data]
        by_cases hh : (0 ≤ zfind tx ⟨#[10]⟩ 0 ∧ bl st.newline ≠ [10])
        · rw [if_pos hh, if_pos (e.1 hh)]
        · rw [if_neg hh, if_neg (fun h => hh (e.2 h))])
      clear hcb
      go_upto_region 4 with (fail)
      go_cut [40] (fun v40 wx => v40 = .bool cb ∧ wp = wx)
      case first =>
        have hc5 : wp.cell? ⟨b, 5, none⟩ = some (.pointer (some ⟨q, 0, none⟩)) := h2.c 5
        have hq7 : wp.cell? ⟨q, 7, none⟩ = some (.string st.newline) := h2.s 7
        cases hz : decide (0 ≤ zfind tx ⟨#[10]⟩ 0) with
        | false =>
          have HZ := Lib.hid hz
          have hcf : cb = false := by rw [HCB.out, hz]; rfl
          clear hz
          go_wp2_with fail
          refine (lcontains_any tx ⟨#[10]⟩ _ (by omega) (by decide)).mono ?_
          rintro e w2 ⟨rfl, rfl⟩
          rw [HZ.out]
          go_wp2_with fail
          go_meet
          exact ⟨by rw [hcf], rfl⟩
        | true =>
          cases hnl : (st.newline.toList == [10]) with
          | true =>
            have HZ := Lib.hid hz
            have hcf : cb = false := by rw [HCB.out, hz, hnl]; rfl
            clear hz
            go_wp2_with fail
            refine (lcontains_any tx ⟨#[10]⟩ _ (by omega) (by decide)).mono ?_
            rintro e w2 ⟨rfl, rfl⟩
            rw [HZ.out]
            go_wp2_with fail
            go_meet
            exact ⟨by rw [hcf], rfl⟩
          | false =>
            have HZ := Lib.hid hz
            have hcf : cb = true := by rw [HCB.out, hz, hnl]; rfl
            clear hz
            go_wp2_with fail
            refine (lcontains_any tx ⟨#[10]⟩ _ (by omega) (by decide)).mono ?_
            rintro e w2 ⟨rfl, rfl⟩
            rw [HZ.out]
            go_wp2_with fail
            go_meet
            exact ⟨by rw [hcf], rfl⟩
      case rest =>
      obtain ⟨rfl, rfl⟩ := hcut
      go_upto_if 40 with (fail)
      go_cut [10] (fun v10 wx => v10 = .string td ∧ RS w wx B b ob q st a css (.slice A n c) ptrs items lv ((w.heap.size, .cells hv.cells 112 (0, 0)) :: ex) acc1)
      case first =>
        have hc5 : wp.cell? ⟨b, 5, none⟩ = some (.pointer (some ⟨q, 0, none⟩)) := h2.c 5
        have hq7 : wp.cell? ⟨q, 7, none⟩ = some (.string st.newline) := h2.s 7
        cases cb with
        | false =>
          have HT2 := Lib.hid (show tx = td from HT.out.symm)
          go_wp2_with fail
          go_meet
          exact ⟨by rw [HT2.out], h2⟩
        | true =>
          have HT2 := Lib.hid (show (⟨(replL (bl ⟨#[10]⟩) (bl st.newline) (bl tx)).toArray⟩ : ByteArray) = td from HT.out.symm)
          have hrl : (replL (bl ⟨#[10]⟩) (bl st.newline) (bl tx)).length ≤ 140737488355328 := by
            have := congrArg ByteArray.size HT2.out
            rw [mk_size] at this
            omega
          go_wp2_with fail
          refine (lreplace_any tx ⟨#[10]⟩ st.newline _ (by omega) (by decide) (by decide) hrl).mono ?_
          rintro e w2 ⟨rfl, hb2⟩
          rw [HT2.out]
          have h3 := h2.below hb2
          go_wp2_with fail
          go_meet
          exact ⟨rfl, h3⟩
      case rest =>
        obtain ⟨rfl, h3⟩ := hcut
        clear h2
        go_wp2_with fail
        refine (lsplit_any td ⟨#[10]⟩ _ (by omega) (by decide) (by decide)).mono ?_
        rintro e w2 ⟨v, ls2, rfl, hown, hls2, hb2⟩
        have hLs : ls2 = ls := map_bl_inj _ _ (hls2.trans HLM.out.symm)
        subst hLs
        have h4 := h3.below hb2
        obtain ⟨m, hm⟩ : ∃ m, m = ls2.length := ⟨_, rfl⟩
        unfold OwnStrs at hown
        rw [← hm] at hown hlsn
        have hm0 : m ≠ 0 := by
          intro e
          rw [e] at hm
          have h0 := List.eq_nil_of_length_eq_zero hm.symm
          rw [h0] at hls2
          exact splitL_ne 10 (bl td) (by rw [← hls2]; rfl)
        obtain ⟨g, c', cur, rfl, _, hgb, _, _, _, _⟩ := hown.2.resolve_left fun e => hm0 e.2
        have hcell : ∀ (k : Nat) (y : ByteArray), ls2[k]? = some y → cur[k]? = some (.string y) := by
          intro k y hy
          have hk : k < m := by rw [hm]; exact (List.getElem?_eq_some_iff.1 hy).1
          have := hown.cellAt k (by omega)
          rw [blk_cell hgb k, List.getElem?_map, hy] at this
          exact this
        have h5 := h4.keep (k := g) (o := .cells cur 9 (0, 0)) ⟨cur, _, _, rfl, by decide, by decide⟩ hgb
        have HM := Lib.hid hm
        have HCL := Lib.hid hcell
        clear h3 hb2 hls2 hown hm h4 hgb hcell
        go_wp2_with fail
        go_loopw [53] (fun v53 wr => ∃ (k : Nat) (acc' : List UInt8), k ≤ m ∧ v53 = .int .i64 k ∧ RS w wr B b ob q st a css (.slice A n c) ptrs items lv ((g, .cells cur 9 (0, 0)) :: (w.heap.size, .cells hv.cells 112 (0, 0)) :: ex) acc' ∧ Hid (acc' = acc1 ++ mapCat (lineD st items i l) 0 (ls2.take k)) ∧ acc'.length ≤ acc1.length + k * 27000) (fun v53 _ => m - (intOf v53).toNat)
        case atStart => exact ⟨0, acc1, Nat.zero_le _, rfl, h5, Lib.hid (by simp [mapCat]), by omega⟩
        case round =>
          obtain ⟨k, acc', hk, rfl, hr, HA, hal⟩ := hrel
          clear h5
          by_cases hlt : k < m
          · have hki : (k : Int) < (m : Int) := by omega
            have hy := List.getElem?_eq_getElem (l := ls2) (i := k) (by rw [← HM.out]; exact hlt)
            obtain ⟨y, hye⟩ : ∃ y, y = ls2[k]'(by rw [← HM.out]; exact hlt) := ⟨_, rfl⟩
            rw [← hye] at hy
            have hyz : y.size ≤ 20000 := HLZ.out y (List.mem_of_getElem? hy)
            have hcy : wr.cell? ⟨g, k, none⟩ = some (.string y) := (hr.hint k).trans (HCL.out k y hy)
            have HY := Lib.hid hy
            have hbnd : k * 27000 ≤ 20001 * 27000 := Nat.mul_le_mul (by omega) (Nat.le_refl _)
            clear hy hye
            go_upto_if 59 with (fail)
            go_cut [] (fun wx => ∃ a1, RS w wx B b ob q st a css (.slice A n c) ptrs items lv ((g, .cells cur 9 (0, 0)) :: (w.heap.size, .cells hv.cells 112 (0, 0)) :: ex) a1 ∧ Hid (a1 = acc' ++ (if 0 < k then [10] else [])) ∧ a1.length ≤ acc'.length + 1)
            case first =>
              by_cases hk0 : 0 < k
              · have hk0i : (0 : Int) < (k : Int) := by omega
                go_wp2_with fail
                refine (rs_rune 10 [10] (by decide) (by decide) (by decide) (by decide) hr (by omega)).mono ?_
                rintro e w2 ⟨a1, ⟨r1, rfl⟩, h1, HB1, hb1⟩
                go_wp2_with fail
                go_meet
                exact ⟨a1, h1, Lib.hid (by rw [HB1.out, if_pos hk0]), hb1⟩
              · have hk0i : ¬ (0 : Int) < (k : Int) := by omega
                have hk0d : decide ((0 : Int) < (k : Int)) = false := decide_eq_false hk0i
                go_wp2_with fail
                go_meet
                exact ⟨acc', hr, Lib.hid (by rw [if_neg hk0, List.append_nil]), by omega⟩
            case rest =>
              obtain ⟨a1, h1, HB1, hb1⟩ := hcut
              clear hr hcy
              obtain ⟨wq, rfl⟩ : ∃ x : World, x = wc := ⟨_, rfl⟩
              have hp0 : wq.cell? ⟨p, 0, none⟩ = some (.int .i64 l) := (h1.hs.list.cellp HP.out HX.out).1
              go_wp2_with fail
              refine (prefix_any B b ob q st a css A n c ptrs items lv _ i l a1 _ HST.out HN.out hn2 (by omega) hx2 h1.more (by omega)).mono ?_
              rintro e w2 ⟨a2, rfl, h2, HB2, hb2⟩
              have h2w := h1.of h2
              clear h1 h2 hp0
              have hh0 : w2.cell? ⟨w.heap.size, 0, none⟩ = hv.cells[0]? := h2w.pop.hint 0
              have hh1 : w2.cell? ⟨w.heap.size, 1, none⟩ = hv.cells[1]? := h2w.pop.hint 1
              have hh2 : w2.cell? ⟨w.heap.size, 2, none⟩ = hv.cells[2]? := h2w.pop.hint 2
              have hh3 : w2.cell? ⟨w.heap.size, 3, none⟩ = hv.cells[3]? := h2w.pop.hint 3
              have hh4 : w2.cell? ⟨w.heap.size, 4, none⟩ = hv.cells[4]? := h2w.pop.hint 4
              simp only [HintV.cells] at hh0 hh1 hh2 hh3 hh4
              go_wp2_with fail
              refine (bullet_any B b ob q st a css A n c ptrs items lv _ hv k a2 _ HST.out h2w.more (by omega)).mono ?_
              rintro e w3 ⟨a3, rfl, h3, HB3, hb3⟩
              have h3w := h2w.of h3
              clear h2w h3 hh0 hh1 hh2 hh3 hh4
              go_wp2_with fail
              refine (rs_put y 20000 h3w hyz (by omega)).mono ?_
              rintro e w4 ⟨a4, ⟨r4, rfl⟩, h4, HB4, hb4⟩
              clear h3w
              go_wp2
              go_roundw
              case rel => exact ⟨k + 1, a4, by omega, by go_num, h4, Lib.hid (by rw [mapCat_step _ HY.out, HB4.out, HB3.out, HB2.out, HB1.out, HA.out]; unfold lineD; rw [← HHV.out]; simp only [List.append_assoc]), by omega⟩
              case measure => simp [intOf]; omega
          · have hkm : k = m := by omega
            have hki : ¬ (k : Int) < (m : Int) := by omega
            have hbnd : k * 27000 ≤ 20001 * 27000 := Nat.mul_le_mul (by omega) (Nat.le_refl _)
            have HF := Lib.hid (show acc' = acc ++ itemD st items i (tx, l) by
              rw [HA.out, HA1.out, List.take_of_length_le (by rw [← HM.out]; omega), HLS.out]; unfold itemD; rw [List.append_assoc])
            go_wp2
            go_end0
            first | exact ⟨acc', rfl, hr.pop.pop, HF, by omega⟩ | exact ⟨rfl, acc', hr.pop.pop, HF, by omega⟩
end
end Go.Proofs.YtdkpacgbniclhaaGreatDoor
