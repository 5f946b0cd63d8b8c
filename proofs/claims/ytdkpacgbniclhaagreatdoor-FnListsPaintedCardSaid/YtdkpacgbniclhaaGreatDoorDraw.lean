/- Walks of the list's rendering in a style: what it makes of the items. Condition: sizes below the bounds that are named. -/
import Derived.Test.YtdkpacgbniclhaaGreatDoorDrawPlain
import Derived.Test.YtdkpacgbniclhaaGreatDoorLSplit
import Derived.Test.YtdkpacgbniclhaaGreatDoorHtml
import Derived.Test.YtdkpacgbniclhaaGreatDoorListHtml
namespace Go.Proofs.YtdkpacgbniclhaaGreatDoor
open Go.RowKit

theorem StyleAt.others {w w' : World} {q ob : Nat} {st : StyleV} (h : StyleAt w q st) (hob : w.heap[ob]? = some (.cells #[] 106 (0, 0)) ∨ ∃ cs, w.heap[ob]? = some (.cells cs 106 (0, 0))) (ho : Lib.OthersKept 5 (some ob) w w') : StyleAt w' q st := by
  have hob2 : ∃ cs, w.heap[ob]? = some (.cells cs 106 (0, 0)) := by
    rcases hob with h | h
    · exact ⟨_, h⟩
    · exact h
  obtain ⟨cs, hob⟩ := hob2
  refine ho q _ h ?_ ?_
  · intro e
    injection e with e
    subst e
    unfold StyleAt at h
    rw [hob] at h
    injection h with h
    injection h with _ h
    exact absurd h (by decide)
  · intro c' fz e
    injection e with _ e
    exact absurd e (by decide)

/-- Cells that no builder writes. -/
def fineO (o : Obj) : Prop := ∃ c t f, o = .cells c t f ∧ t ≠ 106 ∧ t ≠ 5
theorem hint_others {w w' : World} {k ob : Nat} {o : Obj} {cs : Array Value} (hf : fineO o) (h : w.heap[k]? = some o) (hob : w.heap[ob]? = some (.cells cs 106 (0, 0))) (ho : Lib.OthersKept 5 (some ob) w w') : w'.heap[k]? = some o := by
  obtain ⟨c, t, f, rfl, h1, h2⟩ := hf
  refine ho k _ h ?_ ?_
  · intro e
    injection e with e
    subst e
    rw [hob] at h
    injection h with h
    injection h with _ h
    exact h1 h.symm
  · intro c' fz e
    injection e with _ e
    exact h2 e

/-- What is known while a list is written in a style: the list, its style, the builder. -/
structure RS (w0 wx : World) (B b ob q : Nat) (st : StyleV) (a : Int) (css : ByteArray) (v : Value) (ptrs : List Nat) (items : List (ByteArray × Nat)) (lv : Nat) (ex : List (Nat × Obj)) (acc : List UInt8) : Prop where
  hs : HS w0 wx B b ob a (spacesOf st) css (.pointer (some ⟨q, 0, none⟩)) v ptrs items lv acc
  sty : StyleAt wx q st
  hints : ∀ y ∈ ex, fineO y.2 ∧ wx.heap[y.1]? = some y.2
section
variable {ex : List (Nat × Obj)} {w0 wx wy : World} {B b ob q : Nat} {st : StyleV} {a : Int} {css : ByteArray} {v : Value} {ptrs : List Nat} {items : List (ByteArray × Nat)} {lv : Nat} {acc : List UInt8}
theorem RS.below (h : RS w0 wx B b ob q st a css v ptrs items lv ex acc) (hb : Below wx.heap.size wx wy) : RS w0 wy B b ob q st a css v ptrs items lv ex acc := ⟨h.hs.below hb, h.sty.below hb, fun y hy => ⟨(h.hints y hy).1, (hb.block y.1 (blk_lt (h.hints y hy).2)).trans (h.hints y hy).2⟩⟩
theorem RS.more (h : RS w0 wx B b ob q st a css v ptrs items lv ex acc) : RS wx wx B b ob q st a css v ptrs items lv ex acc := ⟨h.hs.more, h.sty, h.hints⟩
theorem RS.of (h : RS w0 wx B b ob q st a css v ptrs items lv ex acc) {acc2 : List UInt8} (h2 : RS wx wy B b ob q st a css v ptrs items lv ex acc2) : RS w0 wy B b ob q st a css v ptrs items lv ex acc2 := ⟨h.hs.of h2.hs, h2.sty, h2.hints⟩
theorem RS.drewN (h : RS w0 wx B b ob q st a css v ptrs items lv ex acc) (n : Nat) : RS w0 (wx.drewN n) B b ob q st a css v ptrs items lv ex acc := ⟨h.hs.drewN n, h.sty, h.hints⟩
theorem RS.drew (h : RS w0 wx B b ob q st a css v ptrs items lv ex acc) : RS w0 wx.drew B b ob q st a css v ptrs items lv ex acc := ⟨⟨h.hs.list, h.hs.bld, h.hs.kept.drew⟩, h.sty, h.hints⟩
theorem RS.keep (h : RS w0 wx B b ob q st a css v ptrs items lv ex acc) {k : Nat} {o : Obj} (hf : fineO o) (hk : wx.heap[k]? = some o) : RS w0 wx B b ob q st a css v ptrs items lv ((k, o) :: ex) acc := by
  refine ⟨h.hs, h.sty, fun y hy => ?_⟩
  rcases List.mem_cons.1 hy with rfl | hy
  · exact ⟨hf, hk⟩
  · exact h.hints y hy
theorem fine_hint (cs : Array Value) : fineO (.cells cs 112 (0, 0)) := ⟨cs, _, _, rfl, by decide, by decide⟩
theorem RS.push (h : RS w0 wx B b ob q st a css v ptrs items lv ex acc) (cs : Array Value) : RS w0 (wx.alloc (.cells cs 112)) B b ob q st a css v ptrs items lv ((wx.heap.size, .cells cs 112 (0, 0)) :: ex) acc :=
  (h.below ((Below.refl wx.heap.size wx).alloc (Nat.le_refl _) (.cells cs 112))).keep (fine_hint cs) (heap_alloc_new wx _)
theorem RS.pop {y : Nat × Obj} (h : RS w0 wx B b ob q st a css v ptrs items lv (y :: ex) acc) : RS w0 wx B b ob q st a css v ptrs items lv ex acc := ⟨h.hs, h.sty, fun z hz => h.hints z (List.mem_cons_of_mem _ hz)⟩
theorem RS.hint {k : Nat} {cs : Array Value} {t : TypeId} (h : RS w0 wx B b ob q st a css v ptrs items lv ((k, .cells cs t (0, 0)) :: ex) acc) (i : Nat) : wx.cell? ⟨k, i, none⟩ = cs[i]? := blk_cell (h.hints (k, .cells cs t (0, 0)) (by simp)).2 i
theorem RS.c (h : RS w0 wx B b ob q st a css v ptrs items lv ex acc) (i : Nat) : wx.cell? ⟨b, i, none⟩ = (#[.int .i64 a, .string (spacesOf st), .string css, v, .int .i64 lv, .pointer (some ⟨q, 0, none⟩)] : Array Value)[i]? := blk_cell h.hs.list.2.1 i
theorem RS.s (h : RS w0 wx B b ob q st a css v ptrs items lv ex acc) (i : Nat) : wx.cell? ⟨q, i, none⟩ = st.cells[i]? := blk_cell h.sty i
theorem rs_put (s : ByteArray) (m : Nat) (h : RS w0 wx B b ob q st a css v ptrs items lv ex acc) (hm : s.size ≤ m) (hl : acc.length + m ≤ 140737488355328) :
    Calls Tryz.prog 89 #[.pointer (some ⟨ob, 0, none⟩), .string s] wx fun e w' => ∃ acc2, (∃ r, e = .returned r) ∧ RS w0 w' B b ob q st a css v ptrs items lv ex acc2 ∧ Hid (acc2 = acc ++ bl s) ∧ acc2.length ≤ acc.length + m := by
  obtain ⟨cs, hk⟩ := h.hs.bld.kind
  refine (bld_write B ob acc s wx h.hs.bld (by omega) h.hs.B_le).mono ?_
  rintro e w' ⟨he, hb, hbel, hok⟩
  exact ⟨_, ⟨_, he⟩, ⟨⟨h.hs.list.others hk hok, hb, h.hs.kept.trans hbel⟩, h.sty.others (Or.inr ⟨cs, hk⟩) hok, fun y hy => ⟨(h.hints y hy).1, hint_others (h.hints y hy).1 (h.hints y hy).2 hk hok⟩⟩, Lib.hid rfl, by rw [List.length_append, bl_size]; omega⟩
theorem rs_rune (r : Int) (l : List UInt8) (h0 : 0 ≤ r) (h1 : r ≤ 127) (hr : Lib.encodeRune r = l) (hle : l.length ≤ 1) (h : RS w0 wx B b ob q st a css v ptrs items lv ex acc) (hl : acc.length + 4 ≤ 140737488355328) :
    Calls Tryz.prog 78 #[.pointer (some ⟨ob, 0, none⟩), .int .i32 r] wx fun e w' => ∃ acc2, (∃ r, e = .returned r) ∧ RS w0 w' B b ob q st a css v ptrs items lv ex acc2 ∧ Hid (acc2 = acc ++ l) ∧ acc2.length ≤ acc.length + 1 := by
  obtain ⟨cs, hk⟩ := h.hs.bld.kind
  refine (bld_rune B ob acc r (by omega) (by omega) wx h.hs.bld hl h.hs.B_le).mono ?_
  rintro e w' ⟨he, hb, hbel, hok⟩
  exact ⟨_, ⟨_, he⟩, ⟨⟨h.hs.list.others hk hok, hb, h.hs.kept.trans hbel⟩, h.sty.others (Or.inr ⟨cs, hk⟩) hok, fun y hy => ⟨(h.hints y hy).1, hint_others (h.hints y hy).1 (h.hints y hy).2 hk hok⟩⟩, Lib.hid (by rw [hr]), by rw [List.length_append, hr]; omega⟩
end

set_option maxRecDepth 100000 in
set_option maxHeartbeats 4000000 in
theorem more_any (B b n c : Nat) (A : Option Addr) (a : Int) (s1 css : ByteArray) (sty : Value) (ptrs : List Nat) (items : List (ByteArray × Nat)) (lv i l : Nat) (w : World) (h : ListV w B b a s1 css sty (.slice A n c) ptrs items lv) (hn : n = items.length) (hn2 : n ≤ 2000) (hi : i ≤ 2000) (hl : l ≤ 2000) :
    Calls Tryz.prog 75 #[.pointer (some ⟨b, 0, none⟩), .int .i64 l, .int .i64 i] w fun e w' => e = .returned (.bool (moreB l (items.drop (i + 1)))) ∧ w = w' := by
  have HN := Lib.hid hn
  have hc3 : w.cell? ⟨b, 3, none⟩ = some (.slice A n c) := blk_cell h.2.1 3
  clear hn
  go_enter Tryz.func75, Tryz.ntmps75
  go_wp2
  go_loop [7] (fun v7 => ∃ k : Nat, k ≤ n + i + 1 ∧ v7 = .int .i64 k ∧ Hid (moreB l (items.drop (i + 1)) = moreB l (items.drop k))) (fun v7 => n + i + 1 - (intOf v7).toNat)
  case atStart => exact ⟨i + 1, by omega, by go_num, Lib.hid rfl⟩
  case round =>
    obtain ⟨k, hk, rfl, HM⟩ := hrel
    have hk0 : (0 : Int) ≤ (k : Int) := by omega
    by_cases hlt : k < n
    · obtain ⟨g, cap, p, x, hv, hx, hp, hcg, hc0, _, _⟩ := h.item (k := k) (by rw [← HN.out]; exact hlt)
      rw [← HN.out] at hv
      injection hv with e1 e2 e3
      subst e1 e3
      have hki : (k : Int) < (n : Int) := by omega
      have HS := Lib.hid (moreB_step (lv := l) hx)
      clear e2
      by_cases h1 : x.2 < l
      · have h1i : (x.2 : Int) < (l : Int) := by omega
        have HR := Lib.hid (show moreB l (items.drop (i + 1)) = false by rw [HM.out, HS.out, if_pos h1])
        clear hx hp
        go_wp2
        go_ret
        exact ⟨ret_bool (by rw [HR.out]), rfl⟩
      · have h1i : ¬ (x.2 : Int) < (l : Int) := by omega
        by_cases h2 : x.2 = l
        · have HR := Lib.hid (show moreB l (items.drop (i + 1)) = true by rw [HM.out, HS.out, if_neg h1, if_pos h2])
          have h2i : ((x.2 : Int) == (l : Int)) = true := by rw [beq_iff_eq]; omega
          clear hx hp
          go_wp2
          go_ret
          exact ⟨ret_bool (by rw [HR.out]), rfl⟩
        · have HR := Lib.hid (show moreB l (items.drop (i + 1)) = moreB l (items.drop (k + 1)) by rw [HM.out, HS.out, if_neg h1, if_neg h2])
          have h2i : ((x.2 : Int) == (l : Int)) = false := by rw [beq_eq_false_iff_ne]; omega
          clear hx hp
          go_wp2
          go_round
          case rel => exact ⟨k + 1, by omega, by go_num, HR⟩
          case measure => simp [intOf]; omega
    · have HR := Lib.hid (show moreB l (items.drop (i + 1)) = false by rw [HM.out, moreB_end (by rw [← HN.out]; omega)])
      have hki : ¬ (k : Int) < (n : Int) := by omega
      go_wp2
      go_ret
      exact ⟨ret_bool (by rw [HR.out]), rfl⟩

set_option maxRecDepth 100000 in
set_option maxHeartbeats 1000000 in
theorem fmt_any (t : ByteArray) (w : World) : Calls Tryz.prog 99 #[.int .i64 0, .string t] w fun e w' => e = .returned (.string t) ∧ w = w' := by
  go_enter Tryz.func99, Tryz.ntmps99
  go_wp2
  go_ret
  exact ⟨rfl, rfl⟩

section
variable (B b ob q : Nat) (st : StyleV) (a : Int) (css : ByteArray) (A : Option Addr) (n c : Nat) (ptrs : List Nat) (items : List (ByteArray × Nat)) (lv : Nat) (ex : List (Nat × Obj))

set_option maxRecDepth 100000 in
set_option maxHeartbeats 8000000 in
theorem prefix_any (i l : Nat) (acc : List UInt8) (w : World) (hs : styleSmall st) (hn : n = items.length) (hn2 : n ≤ 2000) (hi : i ≤ 2000) (hl : l ≤ 300) (h : RS w w B b ob q st a css (.slice A n c) ptrs items lv ex acc) (hacc : acc.length + 10000 ≤ 140737488355328) :
    Calls Tryz.prog 103 #[.pointer (some ⟨b, 0, none⟩), .pointer (some ⟨ob, 0, none⟩), .int .i64 i, .int .i64 l] w fun e w' => ∃ acc2, e = .returned (.tuple #[]) ∧ RS w w' B b ob q st a css (.slice A n c) ptrs items lv ex acc2 ∧ Hid (acc2 = acc ++ aheadD st items i l) ∧ acc2.length ≤ acc.length + 6020 := by
  have HST := Lib.hid hs
  have HN := Lib.hid hn
  have hvz : st.vert.size ≤ 20 := hs.2.2.2.2.2.1
  have hpz : st.pfx.size ≤ 20 := hs.2.2.2.2.2.2.2.2
  have hsz := spaces_size hvz
  clear hs hn
  go_enter Tryz.func103, Tryz.ntmps103
  have hc5 : w.cell? ⟨b, 5, none⟩ = some (.pointer (some ⟨q, 0, none⟩)) := h.c 5
  have hq8 : w.cell? ⟨q, 8, none⟩ = some (.string st.pfx) := h.s 8
  go_upto_if 16 with (fail)
  go_cut [] (fun wx => ∃ acc1, RS w wx B b ob q st a css (.slice A n c) ptrs items lv ex acc1 ∧ Hid (acc1 = acc ++ bl st.pfx) ∧ acc1.length ≤ acc.length + 20)
  case first =>
    cases hpe : st.pfx.toList.isEmpty with
    | true =>
      have HE := Lib.hid (show bl st.pfx = [] by rw [Lib.toList_data] at hpe; simpa [bl] using hpe)
      go_wp2_with fail
      go_meet
      exact ⟨acc, h, Lib.hid (by rw [HE.out, List.append_nil]), by omega⟩
    | false =>
      go_wp2_with fail
      refine (rs_put st.pfx 20 h hpz (by omega)).mono ?_
      rintro e w2 ⟨acc1, ⟨r1, rfl⟩, h1, HA1, hl1⟩
      go_wp2_with fail
      go_meet
      exact ⟨acc1, h1, HA1, hl1⟩
  case rest =>
    obtain ⟨acc1, h1, HA1, hl1⟩ := hcut
    clear h hc5 hq8
    go_wp2_with fail
    go_loopw [8] (fun v8 wr => ∃ (k : Nat) (acc' : List UInt8), k ≤ l ∧ v8 = .int .i64 k ∧ RS w wr B b ob q st a css (.slice A n c) ptrs items lv ex acc' ∧ Hid (acc' = acc1 ++ (List.range k).flatMap (linkD st items i)) ∧ acc'.length ≤ acc1.length + k * 20) (fun v8 _ => l - (intOf v8).toNat)
    case atStart => exact ⟨0, acc1, Nat.zero_le _, rfl, h1, Lib.hid (by simp), by omega⟩
    case round =>
      obtain ⟨k, acc', hk, rfl, hr, HA, hal⟩ := hrel
      clear h1
      by_cases hlt : k < l
      · have hki : (k : Int) < (l : Int) := by omega
        cases hm : moreB k (items.drop (i + 1)) with
        | true =>
          have HM := Lib.hid hm
          have HL := Lib.hid (show linkD st items i k = bl st.vert by unfold linkD; rw [if_pos hm])
          clear hm
          go_wp2_with fail
          refine (more_any B b n c A a _ css _ ptrs items lv i k _ hr.hs.list HN.out hn2 hi (by omega)).mono ?_
          rintro e w2 ⟨rfl, rfl⟩
          rw [HM.out]
          have hc5 : wr.cell? ⟨b, 5, none⟩ = some (.pointer (some ⟨q, 0, none⟩)) := hr.c 5
          have hq5 : wr.cell? ⟨q, 5, none⟩ = some (.string st.vert) := hr.s 5
          go_wp2_with fail
          refine (rs_put st.vert 20 hr hvz (by omega)).mono ?_
          rintro e w2 ⟨acc2, ⟨r1, rfl⟩, h2, HA2, hl2⟩
          clear hr hc5 hq5
          go_wp2
          go_roundw
          case rel => exact ⟨k + 1, acc2, by omega, by go_num, h2, Lib.hid (by rw [HA2.out, HA.out, ← HL.out, List.range_succ, List.flatMap_append, List.append_assoc]; simp), by omega⟩
          case measure => simp [intOf]; omega
        | false =>
          have HM := Lib.hid hm
          have HL := Lib.hid (show linkD st items i k = bl (spacesOf st) by unfold linkD; rw [if_neg (by rw [hm]; simp)])
          clear hm
          go_wp2_with fail
          refine (more_any B b n c A a _ css _ ptrs items lv i k _ hr.hs.list HN.out hn2 hi (by omega)).mono ?_
          rintro e w2 ⟨rfl, rfl⟩
          rw [HM.out]
          have hc1 : wr.cell? ⟨b, 1, none⟩ = some (.string (spacesOf st)) := hr.c 1
          go_wp2_with fail
          refine (rs_put (spacesOf st) 20 hr hsz (by omega)).mono ?_
          rintro e w2 ⟨acc2, ⟨r1, rfl⟩, h2, HA2, hl2⟩
          clear hr hc1
          go_wp2
          go_roundw
          case rel => exact ⟨k + 1, acc2, by omega, by go_num, h2, Lib.hid (by rw [HA2.out, HA.out, ← HL.out, List.range_succ, List.flatMap_append, List.append_assoc]; simp), by omega⟩
          case measure => simp [intOf]; omega
      · have hki : ¬ (k : Int) < (l : Int) := by omega
        have hkl : k = l := by omega
        have HF := Lib.hid (show acc' = acc ++ aheadD st items i l by rw [HA.out, HA1.out, hkl]; unfold aheadD; rw [List.append_assoc])
        go_wp2
        go_end0
        first | exact ⟨acc', rfl, hr, HF, by omega⟩ | exact ⟨rfl, acc', hr, HF, by omega⟩

set_option maxRecDepth 100000 in
set_option maxHeartbeats 8000000 in
theorem single_any (hv : HintV) (acc : List UInt8) (w : World) (hs : styleSmall st) (h : RS w w B b ob q st a css (.slice A n c) ptrs items lv ex acc) (hacc : acc.length + 10000 ≤ 140737488355328) :
    Calls Tryz.prog 131 #[.pointer (some ⟨b, 0, none⟩), .pointer (some ⟨ob, 0, none⟩), hv.val] w fun e w' => ∃ acc2, e = .returned (.tuple #[]) ∧ RS w w' B b ob q st a css (.slice A n c) ptrs items lv ex acc2 ∧ Hid (acc2 = acc ++ (bl (bulletS st hv) ++ [32])) ∧ acc2.length ≤ acc.length + 21 := by
  have hz : st.single.size ≤ 20 ∧ st.top.size ≤ 20 ∧ st.first.size ≤ 20 ∧ st.middle.size ≤ 20 ∧ st.bottom.size ≤ 20 := ⟨hs.2.1, hs.2.2.1, hs.2.2.2.1, hs.2.2.2.2.1, hs.2.2.2.2.2.2.1⟩
  obtain ⟨z1, z2, z3, z4, z6⟩ := hz
  clear hs
  obtain ⟨top, first, only, last, bottom⟩ := hv
  unfold HintV.val
  dsimp only
  have hbox := (Below.refl w.heap.size w).alloc (Nat.le_refl _) (.cells #[.bool top, .bool first, .bool only, .bool last, .bool bottom] 112)
  have hr := h.below hbox
  clear h hbox
  go_enter Tryz.func131, Tryz.ntmps131
  go_upto_if 7 with (fail)
  go_cut [] (fun wx => ∃ acc1, RS w wx B b ob q st a css (.slice A n c) ptrs items lv ex acc1 ∧ Hid (acc1 = acc ++ bl (bulletS st ⟨top, first, only, last, bottom⟩)) ∧ acc1.length ≤ acc.length + 20)
  case first =>
    have hc5 := hr.c 5
    have hq1 := hr.s 1
    have hq2 := hr.s 2
    have hq3 := hr.s 3
    have hq4 := hr.s 4
    have hq6 := hr.s 6
    simp only [StyleV.cells] at hq1 hq2 hq3 hq4 hq6
    cases only with
    | true =>
      cases top with
      | true =>
        go_wp2_with fail
        refine (rs_put st.single 20 hr z1 (by omega)).mono ?_
        rintro e w2 ⟨acc1, ⟨r1, rfl⟩, h1, HA1, hl1⟩
        go_wp2_with fail
        go_meet
        exact ⟨acc1, h1, HA1, hl1⟩
      | false =>
        go_wp2_with fail
        refine (rs_put st.bottom 20 hr z6 (by omega)).mono ?_
        rintro e w2 ⟨acc1, ⟨r1, rfl⟩, h1, HA1, hl1⟩
        go_wp2_with fail
        go_meet
        exact ⟨acc1, h1, HA1, hl1⟩
    | false =>
      cases top with
      | true =>
        go_wp2_with fail
        refine (rs_put st.top 20 hr z2 (by omega)).mono ?_
        rintro e w2 ⟨acc1, ⟨r1, rfl⟩, h1, HA1, hl1⟩
        go_wp2_with fail
        go_meet
        exact ⟨acc1, h1, HA1, hl1⟩
      | false =>
        cases first with
        | true =>
          go_wp2_with fail
          refine (rs_put st.first 20 hr z3 (by omega)).mono ?_
          rintro e w2 ⟨acc1, ⟨r1, rfl⟩, h1, HA1, hl1⟩
          go_wp2_with fail
          go_meet
          exact ⟨acc1, h1, HA1, hl1⟩
        | false =>
          cases bottom with
          | true =>
            go_wp2_with fail
            refine (rs_put st.bottom 20 hr z6 (by omega)).mono ?_
            rintro e w2 ⟨acc1, ⟨r1, rfl⟩, h1, HA1, hl1⟩
            go_wp2_with fail
            go_meet
            exact ⟨acc1, h1, HA1, hl1⟩
          | false =>
            cases last with
            | true =>
              go_wp2_with fail
              refine (rs_put st.bottom 20 hr z6 (by omega)).mono ?_
              rintro e w2 ⟨acc1, ⟨r1, rfl⟩, h1, HA1, hl1⟩
              go_wp2_with fail
              go_meet
              exact ⟨acc1, h1, HA1, hl1⟩
            | false =>
              go_wp2_with fail
              refine (rs_put st.middle 20 hr z4 (by omega)).mono ?_
              rintro e w2 ⟨acc1, ⟨r1, rfl⟩, h1, HA1, hl1⟩
              go_wp2_with fail
              go_meet
              exact ⟨acc1, h1, HA1, hl1⟩
  case rest =>
    obtain ⟨acc1, h1, HA1, hl1⟩ := hcut
    clear hr
    go_wp2_with fail
    refine (rs_rune 32 [32] (by decide) (by decide) (by decide) (by decide) h1 (by omega)).mono ?_
    rintro e w2 ⟨acc2, ⟨r2, rfl⟩, h2, HA2, hl2⟩
    clear h1
    go_wp2
    go_end0
    exact ⟨acc2, rfl, h2, Lib.hid (by rw [HA2.out, HA1.out, List.append_assoc]), by omega⟩

set_option maxRecDepth 100000 in
set_option maxHeartbeats 8000000 in
theorem bullet_any (hv : HintV) (k : Nat) (acc : List UInt8) (w : World) (hs : styleSmall st) (h : RS w w B b ob q st a css (.slice A n c) ptrs items lv ex acc) (hacc : acc.length + 10000 ≤ 140737488355328) :
    Calls Tryz.prog 104 #[.pointer (some ⟨b, 0, none⟩), .pointer (some ⟨ob, 0, none⟩), .int .i64 k, hv.val] w fun e w' => ∃ acc2, e = .returned (.tuple #[]) ∧ RS w w' B b ob q st a css (.slice A n c) ptrs items lv ex acc2 ∧ Hid (acc2 = acc ++ bulletD st hv k) ∧ acc2.length ≤ acc.length + 21 := by
  have HST := Lib.hid hs
  have hvz : st.vert.size ≤ 20 := hs.2.2.2.2.2.1
  have hsz := spaces_size hvz
  clear hs
  by_cases hk : 0 < k
  · obtain ⟨top, first, only, last, bottom⟩ := hv
    unfold HintV.val
    dsimp only
    have hbox := (Below.refl w.heap.size w).alloc (Nat.le_refl _) (.cells #[.bool top, .bool first, .bool only, .bool last, .bool bottom] 112)
    have hr := h.below hbox
    have hki : (0 : Int) < (k : Int) := by omega
    clear h hbox
    cases last with
    | true =>
      have HD := Lib.hid (show bulletD st ⟨top, first, only, true, bottom⟩ k = bl (spacesOf st) by unfold bulletD; rw [if_pos hk, if_pos rfl])
      have hc1 := hr.c 1
      go_enter Tryz.func104, Tryz.ntmps104
      go_wp2_with fail
      refine (rs_put (spacesOf st) 20 hr hsz (by omega)).mono ?_
      rintro e w2 ⟨acc1, ⟨r1, rfl⟩, h1, HA1, hl1⟩
      go_wp2
      go_end0
      exact ⟨acc1, rfl, h1, Lib.hid (by rw [HA1.out, HD.out]), by omega⟩
    | false =>
      have HD := Lib.hid (show bulletD st ⟨top, first, only, false, bottom⟩ k = bl st.vert by unfold bulletD; rw [if_pos hk, if_neg (by simp)])
      have hc5 := hr.c 5
      have hq5 := hr.s 5
      simp only [StyleV.cells] at hq5
      go_enter Tryz.func104, Tryz.ntmps104
      go_wp2_with fail
      refine (rs_put st.vert 20 hr hvz (by omega)).mono ?_
      rintro e w2 ⟨acc1, ⟨r1, rfl⟩, h1, HA1, hl1⟩
      go_wp2
      go_end0
      exact ⟨acc1, rfl, h1, Lib.hid (by rw [HA1.out, HD.out]), by omega⟩
  · have hk0 : k = 0 := by omega
    subst hk0
    have hbox := (Below.refl w.heap.size w).alloc (Nat.le_refl _) (.cells #[.bool hv.top, .bool hv.first, .bool hv.only, .bool hv.last, .bool hv.bottom] 112)
    have hr := h.below hbox
    clear h hbox
    go_enter Tryz.func104, Tryz.ntmps104
    unfold HintV.val
    go_wp2_with fail
    refine (single_any B b ob q st a css A n c ptrs items lv ex hv acc _ HST.out hr.more (by omega)).mono ?_
    rintro e w2 ⟨acc1, rfl, h1, HA1, hl1⟩
    have h2 := hr.of h1
    go_wp2
    go_end0
    exact ⟨acc1, rfl, h2, Lib.hid (by rw [HA1.out]; rfl), hl1⟩
end
end Go.Proofs.YtdkpacgbniclhaaGreatDoor
