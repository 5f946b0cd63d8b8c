/- Walk of initForRender of a list that has a style: nothing but the list itself turns. Condition: sizes below the bounds that are named. -/
import Derived.Test.YtdkpacgbniclhaaGreatDoorInit
namespace Go.Proofs.YtdkpacgbniclhaaGreatDoor
open Go.RowKit

/-- All that was there but block b is as it was. -/
def Far (b : Nat) (w w' : World) : Prop := ∀ (k : Nat) (o : Obj), k ≠ b → w.heap[k]? = some o → w'.heap[k]? = some o
theorem Far.refl (b : Nat) (w : World) : Far b w w := fun _ _ _ h => h
theorem Far.blw {b : Nat} {w w1 w2 : World} (h : Far b w w1) (hb : Below w1.heap.size w1 w2) : Far b w w2 := fun k o hk ho => (hb.block k ((Array.getElem?_eq_some_iff.1 (h k o hk ho)).1)).trans (h k o hk ho)
theorem Far.put {b : Nat} {w w1 w2 : World} (h : Far b w w1) (hp : ∀ (k : Nat) (o : Obj), k ≠ b → w1.heap[k]? = some o → w2.heap[k]? = some o) : Far b w w2 := fun k o hk ho => hp k o hk (h k o hk ho)

/-- What is known of a list while it is made ready. -/
structure Ready2 (w0 wx : World) (B b q : Nat) (st : StyleV) (s1 css : ByteArray) (v : Value) (ptrs : List Nat) (items : List (ByteArray × Nat)) (lv a : Nat) : Prop where
  list : ListV wx B b a s1 css (.pointer (some ⟨q, 0, none⟩)) v ptrs items lv
  sty : StyleAt wx q st
  kept : Below B w0 wx
  far : Far b w0 wx
section
variable {w0 wx wy : World} {B b q : Nat} {st : StyleV} {s1 css : ByteArray} {v : Value} {ptrs : List Nat} {items : List (ByteArray × Nat)} {lv a : Nat}
theorem Ready2.drew (h : Ready2 w0 wx B b q st s1 css v ptrs items lv a) : Ready2 w0 wx.drew B b q st s1 css v ptrs items lv a := ⟨h.list, h.sty, h.kept.drew, h.far⟩
theorem Ready2.below (hB : B ≤ w0.heap.size) (h : Ready2 w0 wx B b q st s1 css v ptrs items lv a) (hb : Below wx.heap.size wx wy) : Ready2 w0 wy B b q st s1 css v ptrs items lv a :=
  ⟨h.list.below hb, h.sty.below hb, h.kept.trans (hb.mono (by have := h.kept.size; omega)), h.far.blw hb⟩
theorem Ready2.put (h : Ready2 w0 wx B b q st s1 css v ptrs items lv a) (i : Nat) (u : Value) {a' : Nat} {s1' css' : ByteArray}
    (hset : (#[.int .i64 a, .string s1, .string css, v, .int .i64 lv, .pointer (some ⟨q, 0, none⟩)] : Array Value).setIfInBounds i u = #[.int .i64 a', .string s1', .string css', v, .int .i64 lv, .pointer (some ⟨q, 0, none⟩)]) :
    Ready2 w0 (wx.setCell ⟨b, i, none⟩ u) B b q st s1' css' v ptrs items lv a' := by
  have hp := h.list.put i u hset
  exact ⟨hp.1, hp.2.2 q _ (style_ne h.list.at_ h.sty) h.sty, h.kept.trans hp.2.1, h.far.put hp.2.2⟩
theorem Ready2.c (h : Ready2 w0 wx B b q st s1 css v ptrs items lv a) (i : Nat) : wx.cell? ⟨b, i, none⟩ = (#[.int .i64 a, .string s1, .string css, v, .int .i64 lv, .pointer (some ⟨q, 0, none⟩)] : Array Value)[i]? := blk_cell h.list.2.1 i
theorem Ready2.f (h : Ready2 w0 wx B b q st s1 css v ptrs items lv a) (i : Nat) : wx.frozen? ⟨b, i, none⟩ = false := blk_frozen h.list.2.1 i
theorem Ready2.s (h : Ready2 w0 wx B b q st s1 css v ptrs items lv a) (i : Nat) : wx.cell? ⟨q, i, none⟩ = st.cells[i]? := blk_cell h.sty i
theorem Ready2.add (h : Ready2 w0 wx B b q st s1 css v ptrs items lv a) (r : Nat) : Ready2 w0 (wx.setCell ⟨b, 0, none⟩ (.int .i64 ((a : Int) + r))) B b q st s1 css v ptrs items lv (a + r) :=
  h.put 0 _ (by show (#[.int .i64 ((a : Int) + r), .string s1, .string css, v, .int .i64 lv, .pointer (some ⟨q, 0, none⟩)] : Array Value) = _; rfl)
end


set_option maxRecDepth 100000 in
set_option maxHeartbeats 8000000 in
theorem init_far (B b : Nat) (a : Int) (s1 css : ByteArray) (q : Nat) (st : StyleV) (items : List (ByteArray × Nat)) (lv : Nat) (w : World) (hB : B ≤ w.heap.size) (h : ListAt w B b a s1 css (.pointer (some ⟨q, 0, none⟩)) items lv) (hs : StyleAt w q st) (hst : smallStyle st) (hit : smallItems items) :
    Calls Tryz.prog 73 #[.pointer (some ⟨b, 0, none⟩)] w fun e w' => e = .returned (.tuple #[]) ∧ ∃ (q a' : Nat), a' ≤ 8000000000 ∧ ListAt w' B b a' (spacesOf st) (classOf css) (.pointer (some ⟨q, 0, none⟩)) items lv ∧ StyleAt w' q st ∧ Below B w w' ∧ Far b w w' := by
  obtain ⟨rv, hrv⟩ : ∃ r, Lib.runeCount st.vert = r := ⟨_, rfl⟩
  obtain ⟨rp, hrp⟩ : ∃ r, Lib.runeCount st.pfx = r := ⟨_, rfl⟩
  obtain ⟨rn, hrn⟩ : ∃ r, Lib.runeCount st.newline = r := ⟨_, rfl⟩
  have hv1 : rv ≤ 1000 := by rw [← hrv]; exact Nat.le_trans (Lib.runeCount_le _) hst.1
  have hp1 : rp ≤ 1000 := by rw [← hrp]; exact Nat.le_trans (Lib.runeCount_le _) hst.2.1
  have hn1 : rn ≤ 1000 := by rw [← hrn]; exact Nat.le_trans (Lib.runeCount_le _) hst.2.2
  have HRV := Lib.hid hrv
  have HRP := Lib.hid hrp
  have HRN := Lib.hid hrn
  have HSP := Lib.hid (show (⟨(Lib.repeatL (bl ⟨#[32]⟩) rv).toArray⟩ : ByteArray) = spacesOf st by unfold spacesOf; rw [hrv])
  have HIT := Lib.hid hit
  have HST := Lib.hid hst
  clear hrv hrp hrn hit hst
  go_enter Tryz.func73, Tryz.ntmps73
  go_wp2_with fail
  refine (style_old B b a s1 css items lv w q h).mono ?_
  rintro e w1 ⟨rfl, hww⟩
  have hla1 : ListAt w1 B b a s1 css (.pointer (some ⟨q, 0, none⟩)) items lv := by rw [← hww]; exact h
  have hsty1 : StyleAt w1 q st := by rw [← hww]; exact hs
  have hb1 : Below B w w1 := by rw [← hww]; exact Below.refl _ _
  have hfar1 : Far b w w1 := by rw [← hww]; exact Far.refl _ _
  clear hww
  obtain ⟨v, ptrs, hlv1⟩ := hla1.name
  have hsz1 : B ≤ w1.heap.size := by have := hb1.size; omega
  have hc5 : w1.cell? ⟨b, 5, none⟩ = some (.pointer (some ⟨q, 0, none⟩)) := blk_cell hlv1.2.1 5
  have hq5 : w1.cell? ⟨q, 5, none⟩ = some (.string st.vert) := blk_cell hsty1 5
  clear h hs hla1
  go_wp2_with fail
  refine (rcount_at st.vert rv _ HRV.out (by have := HST.out.1; omega)).mono ?_
  rintro e w2 ⟨rfl, hb2⟩
  have hlv2 := hlv1.below hb2
  have hsty2 := hsty1.below hb2
  have hfar2 := hfar1.blw hb2
  have hb12 := hb1.trans (hb2.mono hsz1)
  have hsz2 : B ≤ w2.heap.size := by have := hb12.size; omega
  clear hlv1 hsty1 hb1 hb2 hc5 hq5
  go_wp2_with fail
  refine (repeatAny_any ⟨#[32]⟩ rv _ (by decide) (by decide) (by omega)).mono ?_
  rintro e w3 ⟨rfl, hb3⟩
  rw [HSP.out]
  have hlv3 := hlv2.below hb3
  have hsty3 := hsty2.below hb3
  have hfar3 := hfar2.blw hb3
  have hb13 := hb12.trans (hb3.mono hsz2)
  have hc1 : w3.cell? ⟨b, 1, none⟩ = some (.string s1) := blk_cell hlv3.2.1 1
  have hf : ∀ i, w3.frozen? ⟨b, i, none⟩ = false := blk_frozen hlv3.2.1
  have hc0 : w3.cell? ⟨b, 0, none⟩ = some (.int .i64 a) := blk_cell hlv3.2.1 0
  have hf1 := hf 1
  have hf0 := hf 0
  have hc3 : w3.cell? ⟨b, 3, none⟩ = some v := blk_cell hlv3.2.1 3
  obtain ⟨A, c, rfl, _⟩ := own_rd hlv3.2.2.1
  obtain ⟨n, hnn⟩ : ∃ n, n = items.length := ⟨_, rfl⟩
  have hn2000 : n ≤ 2000 := by rw [hnn]; exact HIT.out.1
  have hp3 := hlv3.put 1 (.string (spacesOf st)) (a' := a) (s1' := spacesOf st) (css' := css) (sty' := .pointer (some ⟨q, 0, none⟩)) (lv' := lv) rfl
  have hp4 := hp3.1.put 0 (.int .i64 0) (a' := 0) (s1' := spacesOf st) (css' := css) (sty' := .pointer (some ⟨q, 0, none⟩)) (lv' := lv) rfl
  have hready : Ready2 w ((w3.setCell ⟨b, 1, none⟩ (.string (spacesOf st))).setCell ⟨b, 0, none⟩ (.int .i64 0)) B b q st (spacesOf st) css (.slice A items.length c) ptrs items lv 0 :=
    ⟨hp4.1, hp4.2.2 q _ (style_ne hlv3.at_ hsty3) (hp3.2.2 q _ (style_ne hlv3.at_ hsty3) hsty3), (hb13.trans hp3.2.1).trans hp4.2.1, (hfar3.put hp3.2.2).put hp4.2.2⟩
  rw [← hnn] at hready hc3
  have HN := Lib.hid hnn
  clear hfar1 hfar2 hfar3 hf hlv2 hlv3 hsty2 hsty3 hb12 hb13 hb3 hp3 hp4 hnn
  go_wp2_with fail
  go_loopw [26] (fun v26 wr => ∃ k a' : Nat, k ≤ n ∧ v26 = .int .i64 k ∧ Ready2 w wr B b q st (spacesOf st) css (.slice A n c) ptrs items lv a' ∧ a' ≤ k * 4000000) (fun v26 _ => n - (intOf v26).toNat)
  case atStart => exact ⟨0, 0, Nat.zero_le _, rfl, hready, Nat.zero_le _⟩
  case round =>
    obtain ⟨k, a', hk, rfl, hr, ha⟩ := hrel
    clear hready hc0 hc1 hc3 hf0 hf1
    by_cases hlt : k < n
    · obtain ⟨g, cap, p, x, hv, hx, hp, hcg, _, _, _⟩ := hr.list.item (by rw [← HN.out]; exact hlt)
      rw [← HN.out] at hv
      injection hv with e1 e2 e3
      subst e1 e3
      have hxb := HIT.out.2 x (List.mem_of_getElem? hx)
      obtain ⟨tx, lx⟩ := x
      have hxt : tx.size ≤ 1000000 := hxb.1
      have hxl : lx ≤ 2000 := hxb.2
      obtain ⟨rt, hrt⟩ : ∃ r, Lib.runeCount tx = r := ⟨_, rfl⟩
      have ht1 : rt ≤ 1000000 := by rw [← hrt]; exact Nat.le_trans (Lib.runeCount_le _) hxt
      obtain ⟨rl, hrl⟩ : ∃ r, r = rv * lx := ⟨_, rfl⟩
      have hl1 : rl ≤ 2000000 := by rw [hrl]; exact Nat.le_trans (Nat.mul_le_mul hv1 hxl) (by decide)
      have HRT := Lib.hid hrt
      have HRL := Lib.hid hrl
      have HP := Lib.hid hp
      have HX := Lib.hid hx
      have ha2 : a' ≤ 8000000000 := by have : k * 4000000 ≤ 2000 * 4000000 := Nat.mul_le_mul (by omega) (Nat.le_refl _); omega
      have hk1 : (k : Int) < (n : Int) := by omega
      clear hxb hrt hrl hp hx e2
      go_upto_region 6 with (fail)
      go_cut [] (fun wx => ∃ az : Nat, az ≤ a' + 1000 ∧ Ready2 w wx B b q st (spacesOf st) css (.slice (some ⟨g, 0, none⟩) n c) ptrs items lv az)
      case first =>
        have hc0 : wr.cell? ⟨b, 0, none⟩ = some (.int .i64 a') := hr.c 0
        have hc5 : wr.cell? ⟨b, 5, none⟩ = some (.pointer (some ⟨q, 0, none⟩)) := hr.c 5
        have hq : wr.cell? ⟨q, 8, none⟩ = some (.string st.pfx) := hr.s 8
        have hpz : (st.pfx).size ≤ 1099511627776 := by have := HST.out.1; have := HST.out.2.1; have := HST.out.2.2; omega
        have hw : IntKind.i64.wrap ((a' : Int) + (rp : Int)) = (a' : Int) + (rp : Int) := by rw [IntKind.wrap_i64]; omega
        go_region_law (first
          | ((try go_simp); go_at_call 96; (go_loud (refine (rcount_at st.pfx rp wr.drew HRP.out hpz).mono ?_)); rintro e w1 ⟨rfl, hb1⟩; have hrw := hr.drew.below hB hb1; have hc01 : w1.cell? ⟨b, 0, none⟩ = some (.int .i64 a') := hrw.c 0; have hf01 := hrw.f 0))
        all_goals (go_wp2_with fail; go_meet; exact ⟨a' + rp, by omega, hrw.add rp⟩)
      case rest =>
        obtain ⟨a1, hle1, hr1⟩ := hcut
        obtain ⟨wx1, rfl⟩ : ∃ x : World, x = wc := ⟨_, rfl⟩
        clear hr
        have hit0 : wx1.cell? ⟨p, 0, none⟩ = some (.int .i64 lx) := (hr1.list.cellp HP.out HX.out).1
        go_upto_if 49 with (fail)
        go_cut [] (fun wx => ∃ az : Nat, az ≤ a1 + 2000000 ∧ Ready2 w wx B b q st (spacesOf st) css (.slice (some ⟨g, 0, none⟩) n c) ptrs items lv az)
        case first =>
          by_cases hl0 : 0 < lx
          · have hl0i : (0 : Int) < (lx : Int) := by omega
            go_wp2_with fail
            have hc0 : wx1.cell? ⟨b, 0, none⟩ = some (.int .i64 a1) := hr1.c 0
            have hc5 : wx1.cell? ⟨b, 5, none⟩ = some (.pointer (some ⟨q, 0, none⟩)) := hr1.c 5
            have hq : wx1.cell? ⟨q, 5, none⟩ = some (.string st.vert) := hr1.s 5
            have hpz : (st.vert).size ≤ 1099511627776 := by have := HST.out.1; have := HST.out.2.1; have := HST.out.2.2; omega
            have hit0 : wx1.cell? ⟨p, 0, none⟩ = some (.int .i64 lx) := (hr1.list.cellp HP.out HX.out).1
            have hwm : IntKind.i64.wrap ((rv : Int) * (lx : Int)) = (rl : Int) := by rw [show (rv : Int) * (lx : Int) = ((rl : Nat) : Int) by rw [HRL.out]; push_cast; rfl, IntKind.wrap_i64]; omega
            have hw : IntKind.i64.wrap ((a1 : Int) + (rl : Int)) = (a1 : Int) + (rl : Int) := by rw [IntKind.wrap_i64]; omega
            go_region_law (first
              | ((try go_simp); go_at_call 96; (go_loud (refine (rcount_at st.vert rv wx1.drew HRV.out hpz).mono ?_)); rintro e w1 ⟨rfl, hb1⟩; have hrw := hr1.drew.below hB hb1; have hc01 : w1.cell? ⟨b, 0, none⟩ = some (.int .i64 a1) := hrw.c 0; have hf01 := hrw.f 0; have hit01 : w1.cell? ⟨p, 0, none⟩ = some (.int .i64 lx) := (hrw.list.cellp HP.out HX.out).1))
            all_goals (go_wp2_with fail; go_meet; exact ⟨a1 + rl, by omega, hrw.add rl⟩)
          · have hl00 : lx = 0 := by omega
            subst hl00
            go_wp2_with fail
            go_meet
            exact ⟨a1, by omega, hr1⟩
        case rest =>
          obtain ⟨a2, hle2, hr2⟩ := hcut
          obtain ⟨wx2, rfl⟩ : ∃ x : World, x = wc := ⟨_, rfl⟩
          clear hr1 hit0
          go_upto_region 9 with (fail)
          go_cut [] (fun wx => ∃ az : Nat, az ≤ a2 + 1000 ∧ Ready2 w wx B b q st (spacesOf st) css (.slice (some ⟨g, 0, none⟩) n c) ptrs items lv az)
          case first =>
            have hc0 : wx2.cell? ⟨b, 0, none⟩ = some (.int .i64 a2) := hr2.c 0
            have hc5 : wx2.cell? ⟨b, 5, none⟩ = some (.pointer (some ⟨q, 0, none⟩)) := hr2.c 5
            have hq : wx2.cell? ⟨q, 5, none⟩ = some (.string st.vert) := hr2.s 5
            have hpz : (st.vert).size ≤ 1099511627776 := by have := HST.out.1; have := HST.out.2.1; have := HST.out.2.2; omega
            have hw : IntKind.i64.wrap ((a2 : Int) + (rv : Int)) = (a2 : Int) + (rv : Int) := by rw [IntKind.wrap_i64]; omega
            go_region_law (first
              | ((try go_simp); go_at_call 96; (go_loud (refine (rcount_at st.vert rv wx2.drew HRV.out hpz).mono ?_)); rintro e w1 ⟨rfl, hb1⟩; have hrw := hr2.drew.below hB hb1; have hc01 : w1.cell? ⟨b, 0, none⟩ = some (.int .i64 a2) := hrw.c 0; have hf01 := hrw.f 0))
            all_goals (go_wp2_with fail; go_meet; exact ⟨a2 + rv, by omega, hrw.add rv⟩)
          case rest =>
            obtain ⟨a3, hle3, hr3⟩ := hcut
            obtain ⟨wx3, rfl⟩ : ∃ x : World, x = wc := ⟨_, rfl⟩
            clear hr2
            go_upto_region 10 with (fail)
            go_cut [] (fun wx => ∃ az : Nat, az ≤ a3 + 1000000 ∧ Ready2 w wx B b q st (spacesOf st) css (.slice (some ⟨g, 0, none⟩) n c) ptrs items lv az)
            case first =>
              have hc0 : wx3.cell? ⟨b, 0, none⟩ = some (.int .i64 a3) := hr3.c 0
              have hc5 : wx3.cell? ⟨b, 5, none⟩ = some (.pointer (some ⟨q, 0, none⟩)) := hr3.c 5
              have hit1 : wx3.cell? ⟨p, 1, none⟩ = some (.string tx) := (hr3.list.cellp HP.out HX.out).2
              have hpz : (tx).size ≤ 1099511627776 := by omega
              have hw : IntKind.i64.wrap ((a3 : Int) + (rt : Int)) = (a3 : Int) + (rt : Int) := by rw [IntKind.wrap_i64]; omega
              go_region_law (first
                | ((try go_simp); go_at_call 96; (go_loud (refine (rcount_at tx rt wx3.drew HRT.out hpz).mono ?_)); rintro e w1 ⟨rfl, hb1⟩; have hrw := hr3.drew.below hB hb1; have hc01 : w1.cell? ⟨b, 0, none⟩ = some (.int .i64 a3) := hrw.c 0; have hf01 := hrw.f 0))
              all_goals (go_wp2_with fail; go_meet; exact ⟨a3 + rt, by omega, hrw.add rt⟩)
            case rest =>
              obtain ⟨a4, hle4, hr4⟩ := hcut
              obtain ⟨wx4, rfl⟩ : ∃ x : World, x = wc := ⟨_, rfl⟩
              clear hr3
              go_wp2_with fail
              have hc0 : wx4.cell? ⟨b, 0, none⟩ = some (.int .i64 a4) := hr4.c 0
              have hc5 : wx4.cell? ⟨b, 5, none⟩ = some (.pointer (some ⟨q, 0, none⟩)) := hr4.c 5
              have hq : wx4.cell? ⟨q, 7, none⟩ = some (.string st.newline) := hr4.s 7
              have hpz : (st.newline).size ≤ 1099511627776 := by have := HST.out.1; have := HST.out.2.1; have := HST.out.2.2; omega
              have hw : IntKind.i64.wrap ((a4 : Int) + (rn : Int)) = (a4 : Int) + (rn : Int) := by rw [IntKind.wrap_i64]; omega
              go_region_law (first
                | ((try go_simp); go_at_call 96; (go_loud (refine (rcount_at st.newline rn wx4.drew HRN.out hpz).mono ?_)); rintro e w1 ⟨rfl, hb1⟩; have hrw := hr4.drew.below hB hb1; have hc01 : w1.cell? ⟨b, 0, none⟩ = some (.int .i64 a4) := hrw.c 0; have hf01 := hrw.f 0))
              all_goals
                go_wp2
                go_roundw
                case rel => exact ⟨k + 1, a4 + rn, by omega, by go_num, hrw.add rn, by omega⟩
                case measure => simp [intOf]; omega
    · have hkn : k = n := by omega
      subst hkn
      have hc2 : wr.cell? ⟨b, 2, none⟩ = some (.string css) := hr.c 2
      have hf2 := hr.f 2
      have ha3 : a' ≤ 8000000000 := by have : k * 4000000 ≤ 2000 * 4000000 := Nat.mul_le_mul (by omega) (Nat.le_refl _); omega
      cases hce : css.toList.isEmpty with
      | true =>
        have HCL := Lib.hid (show classOf css = DEFCLASS by
          unfold classOf; rw [if_pos]; rw [Lib.toList_data] at hce; simpa [bl] using hce)
        have hpp := hr.put 2 (.string DEFCLASS) (a' := a') (s1' := spacesOf st) (css' := DEFCLASS) rfl
        go_wp2
        go_end0
        refine ⟨rfl, q, a', ha3, ?_, hpp.sty, hpp.kept, hpp.far⟩
        rw [HCL.out]
        exact hpp.list.at_
      | false =>
        have HCL := Lib.hid (show classOf css = css by
          unfold classOf; rw [if_neg]; intro e; rw [Lib.toList_data, show css.data.toList = [] from e] at hce; cases hce)
        go_wp2
        go_end0
        refine ⟨rfl, q, a', ha3, ?_, hr.sty, hr.kept, hr.far⟩
        rw [HCL.out]
        exact hr.list.at_
end Go.Proofs.YtdkpacgbniclhaaGreatDoor
