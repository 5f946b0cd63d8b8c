/- Walk of the list's rendering in HTML: what it makes of the items. Condition: sizes below the bounds that are named. -/
import Derived.Test.YtdkpacgbniclhaaGreatDoorHtmlPlain
import Derived.Test.YtdkpacgbniclhaaGreatDoorInit
import Derived.Test.YtdkpacgbniclhaaGreatDoorBuild
import Derived.Test.YtdkpacgbniclhaaGreatDoorColor
namespace Go.Proofs.YtdkpacgbniclhaaGreatDoor
open Go.RowKit

theorem Bld.kind {w : World} {BB ob : Nat} {l : List UInt8} (h : Bld w BB ob l) : ∃ cs, w.heap[ob]? = some (.cells cs 106 (0, 0)) := by
  rcases h with h | h
  · obtain ⟨_, v, hb, _⟩ := h; exact ⟨_, hb⟩
  · obtain ⟨_, v, hb, _⟩ := h; exact ⟨_, hb⟩
theorem ListV.others {w w' : World} {B b ob : Nat} {a : Int} {s1 css : ByteArray} {sty v : Value} {ptrs : List Nat} {items : List (ByteArray × Nat)} {lv : Nat} {cs : Array Value} (h : ListV w B b a s1 css sty v ptrs items lv) (hob : w.heap[ob]? = some (.cells cs 106 (0, 0))) (ho : Lib.OthersKept 5 (some ob) w w') : ListV w' B b a s1 css sty v ptrs items lv := by
  obtain ⟨hBb, hblk, hown, hit⟩ := h
  have key : ∀ (k : Nat) (c : Array Value) (t : TypeId), t ≠ 106 → t ≠ 5 → w.heap[k]? = some (.cells c t (0, 0)) → w'.heap[k]? = some (.cells c t (0, 0)) := by
    intro k c t h1 h2 hk
    refine ho k _ hk ?_ ?_
    · intro e
      injection e with e
      subst e
      rw [hk] at hob
      injection hob with hob
      injection hob with _ hob
      exact h1 hob
    · intro c' fz e
      injection e with _ e
      exact h2 e
  refine ⟨hBb, key b _ _ (by decide) (by decide) hblk, own_others hown ho (by decide) (own_blk hown hob (by decide)), fun k p x hp hx => ?_⟩
  obtain ⟨h1, h2⟩ := hit k p x hp hx
  exact ⟨h1, key p _ _ (by decide) (by decide) h2⟩

/-- What is known while a list is written: the list, the builder. -/
structure HS (w0 wx : World) (B b ob : Nat) (a : Int) (s1 css : ByteArray) (sty v : Value) (ptrs : List Nat) (items : List (ByteArray × Nat)) (lv : Nat) (acc : List UInt8) : Prop where
  list : ListV wx B b a s1 css sty v ptrs items lv
  bld : Bld wx B ob acc
  kept : Below B w0 wx
section
variable {w0 wx wy : World} {B b ob : Nat} {a : Int} {s1 css : ByteArray} {sty v : Value} {ptrs : List Nat} {items : List (ByteArray × Nat)} {lv : Nat} {acc : List UInt8}
theorem HS.below (h : HS w0 wx B b ob a s1 css sty v ptrs items lv acc) (hb : Below wx.heap.size wx wy) : HS w0 wy B b ob a s1 css sty v ptrs items lv acc :=
  ⟨h.list.below hb, h.bld.below hb, h.kept.trans (hb.mono (by have := h.bld.lt; omega))⟩
theorem HS.B_le (h : HS w0 wx B b ob a s1 css sty v ptrs items lv acc) : B ≤ wx.heap.size := by have := h.bld.lt; omega
theorem HS.more (h : HS w0 wx B b ob a s1 css sty v ptrs items lv acc) : HS wx wx B b ob a s1 css sty v ptrs items lv acc := ⟨h.list, h.bld, Below.refl _ _⟩
theorem HS.of (h : HS w0 wx B b ob a s1 css sty v ptrs items lv acc) {acc2 : List UInt8} (h2 : HS wx wy B b ob a s1 css sty v ptrs items lv acc2) : HS w0 wy B b ob a s1 css sty v ptrs items lv acc2 := ⟨h2.list, h2.bld, h.kept.trans h2.kept⟩
theorem HS.drewN (h : HS w0 wx B b ob a s1 css sty v ptrs items lv acc) (n : Nat) : HS w0 (wx.drewN n) B b ob a s1 css sty v ptrs items lv acc := ⟨h.list, h.bld, below_drewN h.kept n⟩

theorem hs_write (s : ByteArray) (h : HS w0 wx B b ob a s1 css sty v ptrs items lv acc) (hl : acc.length + s.size ≤ 140737488355328) :
    Calls Tryz.prog 89 #[.pointer (some ⟨ob, 0, none⟩), .string s] wx fun e w' => (∃ r, e = .returned r) ∧ HS w0 w' B b ob a s1 css sty v ptrs items lv (acc ++ bl s) := by
  obtain ⟨cs, hk⟩ := h.bld.kind
  refine (bld_write B ob acc s wx h.bld hl h.B_le).mono ?_
  rintro e w' ⟨he, hb, hbel, hok⟩
  exact ⟨⟨_, he⟩, h.list.others hk hok, hb, h.kept.trans hbel⟩
theorem hs_rune (r : Int) (h0 : 0 ≤ r) (h1 : r ≤ 127) (h : HS w0 wx B b ob a s1 css sty v ptrs items lv acc) (hl : acc.length + 4 ≤ 140737488355328) :
    Calls Tryz.prog 78 #[.pointer (some ⟨ob, 0, none⟩), .int .i32 r] wx fun e w' => (∃ r, e = .returned r) ∧ HS w0 w' B b ob a s1 css sty v ptrs items lv (acc ++ Lib.encodeRune r) := by
  obtain ⟨cs, hk⟩ := h.bld.kind
  refine (bld_rune B ob acc r (by omega) (by omega) wx h.bld hl h.B_le).mono ?_
  rintro e w' ⟨he, hb, hbel, hok⟩
  exact ⟨⟨_, he⟩, h.list.others hk hok, hb, h.kept.trans hbel⟩

/-- .. the bytes under one name. -/
theorem hs_put (s : ByteArray) (m : Nat) (h : HS w0 wx B b ob a s1 css sty v ptrs items lv acc) (hm : s.size ≤ m) (hl : acc.length + m ≤ 140737488355328) :
    Calls Tryz.prog 89 #[.pointer (some ⟨ob, 0, none⟩), .string s] wx fun e w' => ∃ acc2, (∃ r, e = .returned r) ∧ HS w0 w' B b ob a s1 css sty v ptrs items lv acc2 ∧ Hid (acc2 = acc ++ bl s) ∧ acc2.length ≤ acc.length + m :=
  (hs_write s h (by omega)).mono fun _ _ ⟨h1, h2⟩ => ⟨_, h1, h2, Lib.hid rfl, by rw [List.length_append, bl_size]; omega⟩
theorem hs_putRune (r : Int) (l : List UInt8) (h0 : 0 ≤ r) (h1 : r ≤ 127) (he : Lib.encodeRune r = l) (hle : l.length ≤ 1) (h : HS w0 wx B b ob a s1 css sty v ptrs items lv acc) (hl : acc.length + 4 ≤ 140737488355328) :
    Calls Tryz.prog 78 #[.pointer (some ⟨ob, 0, none⟩), .int .i32 r] wx fun e w' => ∃ acc2, (∃ r, e = .returned r) ∧ HS w0 w' B b ob a s1 css sty v ptrs items lv acc2 ∧ Hid (acc2 = acc ++ l) ∧ acc2.length ≤ acc.length + 1 :=
  (hs_rune r h0 h1 h hl).mono fun _ _ ⟨h2, h3⟩ => ⟨_, h2, h3, Lib.hid (by rw [he]), by rw [List.length_append, he]; omega⟩
end

theorem ListV.cellg {w : World} {B b g n cap k p : Nat} {a : Int} {s1 css : ByteArray} {sty : Value} {ptrs : List Nat} {items : List (ByteArray × Nat)} {lv : Nat} (h : ListV w B b a s1 css sty (.slice (some ⟨g, 0, none⟩) n cap) ptrs items lv) (hn : n = items.length) (hp : ptrs[k]? = some p) : w.cell? ⟨g, k, none⟩ = some (.pointer (some ⟨p, 0, none⟩)) := by
  subst hn
  have hown := h.2.2.1
  have hlen : ptrs.length = items.length := by have := hown.1; simpa using this
  have hk : k < ptrs.length := (List.getElem?_eq_some_iff.1 hp).1
  rw [hown.cellAt k (by omega), List.getElem?_map, hp]; rfl

/-- Sizes of items, of a class, for HTML. -/
def htmlItems (items : List (ByteArray × Nat)) : Prop := items.length ≤ 2000 ∧ ∀ x ∈ items, x.1.size ≤ 100000 ∧ x.2 ≤ 2000

set_option maxRecDepth 100000 in
set_option maxHeartbeats 16000000 in
theorem html_rec (B b ob : Nat) (a : Int) (s1 css : ByteArray) (sty v : Value) (ptrs : List Nat) (items : List (ByteArray × Nat)) (lv : Nat) (hit : htmlItems items) (hcss : css.size ≤ 1000) (K : Nat) : ∀ (f : Nat), f ≤ K → f ≤ 5000 → ∀ (i p : Nat) (x : ByteArray × Nat) (acc : List UInt8) (w : World), enough items f x.2 i → items[i]? = some x → ptrs[i]? = some p → HS w w B b ob a s1 css sty v ptrs items lv acc → acc.length + f * 6000000000 ≤ 100000000000000 →
    Calls Tryz.prog 82 #[.pointer (some ⟨b, 0, none⟩), .pointer (some ⟨ob, 0, none⟩), .int .i64 i, .pointer (some ⟨p, 0, none⟩)] w fun e w' =>
      e = .returned (.int .i64 (htmlL (bl css) items f x.2 i 0).2) ∧ HS w w' B b ob a s1 css sty v ptrs items lv (acc ++ openH (bl css) x.2 ++ (htmlL (bl css) items f x.2 i 0).1 ++ closeH x.2) := by
  have HIT := Lib.hid hit
  clear hit
  induction K with
  | zero => intro f hf _ i p x acc w hen; exact absurd (enough_pos hen) (by omega)
  | succ K ih =>
    intro f hf hf5 i p x acc w hen hx hp hs hacc
    obtain ⟨tx, l⟩ := x
    have hxb := HIT.out.2 _ (List.mem_of_getElem? hx)
    have hl2 : l ≤ 2000 := hxb.2
    have hil : i < items.length := (List.getElem?_eq_some_iff.1 hx).1
    have hlen2 : items.length ≤ 2000 := HIT.out.1
    have hc1 := (hs.list.cellp hp hx).1
    obtain ⟨A, c, rfl, _⟩ := own_rd hs.list.2.2.1
    have hi2 := HIT.out.2
    have HSZ := Lib.hid (html_size (bl css) items (by rw [bl_size]; exact hcss) hi2)
    have HTOT := Lib.hid (HSZ.out f l i 0 (Nat.le_of_lt hil) hen)
    obtain ⟨n, hn⟩ : ∃ n, n = items.length := ⟨_, rfl⟩
    have HN := Lib.hid hn
    rw [← HN.out] at hs hil hlen2 ih ⊢
    clear hi2 hn
    obtain ⟨pre, hpre⟩ : ∃ pre : ByteArray, bl pre = preH l := ⟨⟨(preH l).toArray⟩, rfl⟩
    have hprez : pre.size ≤ 4000 := by rw [← bl_size, hpre, preH_len]; omega
    have HPRE := Lib.hid hpre
    have HPR2 := Lib.hid (show (⟨(Lib.repeatL (bl ⟨#[32, 32]⟩) l).toArray⟩ : ByteArray) = pre by apply bl_ext; rw [hpre]; rfl)
    obtain ⟨ec, hec⟩ : ∃ ec : ByteArray, bl ec = escH (bl css) := ⟨⟨(escH (bl css)).toArray⟩, rfl⟩
    have hecz : ec.size ≤ 5000 := by rw [← bl_size, hec]; have := escH_len (bl css); rw [bl_size] at this; omega
    have HEC := Lib.hid hec
    have HEC2 := Lib.hid (show (⟨(escH (bl css)).toArray⟩ : ByteArray) = ec by apply bl_ext; rw [hec])
    have hf1 : 1 ≤ f := enough_pos hen
    have hacc2 : acc.length + 6000000000 ≤ 100000000000000 := by have : 1 * 6000000000 ≤ f * 6000000000 := Nat.mul_le_mul hf1 (Nat.le_refl _); omega
    have HX := Lib.hid hx
    have HP := Lib.hid hp
    clear hpre hec hx hp
    go_enter Tryz.func82, Tryz.ntmps82
    go_wp2_with fail
    refine (repeatAny_any ⟨#[32, 32]⟩ l _ (by decide) (by decide) (by omega)).mono ?_
    rintro e w1 ⟨rfl, hb1⟩
    rw [HPR2.out]
    have hs1 := hs.below hb1
    clear hs hb1 hc1
    go_wp2_with fail
    refine (hs_put pre 4000 hs1 hprez (by omega)).mono ?_
    rintro e w2 ⟨acc1, ⟨r1, rfl⟩, hs2, HA1, hl1⟩
    clear hs1
    go_wp2_with fail
    refine (hs_put ⟨#[60, 117, 108, 32, 99, 108, 97, 115, 115, 61, 34]⟩ 11 hs2 (by decide) (by omega)).mono ?_
    rintro e w3 ⟨acc3, ⟨r3, rfl⟩, hs3, HA3, hl3⟩
    clear hs2
    have hcc : w3.cell? ⟨b, 2, none⟩ = some (.string css) := blk_cell hs3.list.2.1 2
    go_wp2_with fail
    refine (hesc_any css _ (by omega)).mono ?_
    rintro e w4 ⟨rfl, hb4⟩
    rw [HEC2.out]
    have hs4 := hs3.below hb4
    clear hs3 hb4 hcc
    go_wp2_with fail
    refine (hs_put ec 5000 hs4 hecz (by omega)).mono ?_
    rintro e w5 ⟨acc5, ⟨r5, rfl⟩, hs5, HA5, hl5⟩
    clear hs4
    have hc5 := (hs5.list.cellp HP.out HX.out).1
    go_upto_if 34 with (fail)
    go_cut [] (fun wx => ∃ acc6, HS w wx B b ob a s1 css sty (.slice A n c) ptrs items lv acc6 ∧ Hid (acc6 = acc5 ++ (if 0 < l then [45] ++ decL l else [])) ∧ acc6.length ≤ acc5.length + 10)
    case first =>
      by_cases hl0 : 0 < l
      · have hl0i : (0 : Int) < (l : Int) := by omega
        go_wp2_with fail
        refine (hs_putRune 45 [45] (by decide) (by decide) (by decide) (by decide) hs5 (by omega)).mono ?_
        rintro e w6 ⟨acc6, ⟨r6, rfl⟩, hs6, HA6, hl6⟩
        have hc6 := (hs6.list.cellp HP.out HX.out).1
        clear hs5 hc5
        go_wp2_with fail
        refine (itoa_any l _ (by omega)).mono ?_
        rintro e w7 ⟨rfl, hb7⟩
        have hs7 := hs6.below hb7
        have hdz : (⟨(decL l).toArray⟩ : ByteArray).size ≤ 4 := by rw [mk_size]; exact decL_len l (by omega)
        clear hs6 hb7 hc6
        go_wp2_with fail
        refine (hs_put _ 4 hs7 hdz (by omega)).mono ?_
        rintro e w8 ⟨acc8, ⟨r8, rfl⟩, hs8, HA8, hl8⟩
        clear hs7
        go_wp2_with fail
        go_meet
        exact ⟨acc8, hs8, Lib.hid (by rw [HA8.out, HA6.out, if_pos hl0, bl_mk, List.append_assoc]), by omega⟩
      · have hl00 : l = 0 := by omega
        subst hl00
        go_wp2_with fail
        go_meet
        exact ⟨acc5, hs5, Lib.hid (by rw [if_neg (by omega), List.append_nil]), by omega⟩
    case rest =>
      obtain ⟨acc6, hs6, HA6, hl6⟩ := hcut
      clear hs5 hc5
      go_wp2_with fail
      refine (hs_put ⟨#[34, 62, 10]⟩ 3 hs6 (by decide) (by omega)).mono ?_
      rintro e w7 ⟨acc7, ⟨r7, rfl⟩, hs7, HA7, hl7⟩
      have HO := Lib.hid (show acc7 = acc ++ openH (bl css) l by
        rw [HA7.out, HA6.out, HA5.out, HA3.out, HA1.out, HPRE.out, HEC.out]
        simp only [openH, List.append_assoc])
      clear hs6 HA7 HA6 HA5 HA3 HA1
      have hlo : acc7.length ≤ acc.length + 10000 := by omega
      clear hl1 hl3 hl5 hl6 hl7
      go_upto_block 0 with (fail)
      go_cut [10] (fun v10 wx => ∃ (acc8 : List UInt8), v10 = .int .i64 (htmlL (bl css) items f l i 0).2 ∧ HS w wx B b ob a s1 css sty (.slice A n c) ptrs items lv acc8 ∧ Hid (acc8 = acc7 ++ (htmlL (bl css) items f l i 0).1))
      case first =>
        go_wp2_with fail
        go_loopw [10, 11] (fun v10 v11 wr => ∃ (j cnt f' : Nat) (acc' : List UInt8) (done : List UInt8), i ≤ j ∧ j ≤ n ∧ v10 = .int .i64 cnt ∧ v11 = .int .i64 j ∧ HS w wr B b ob a s1 css sty (.slice A n c) ptrs items lv acc' ∧ enough items f' l j ∧ f' ≤ f ∧ Hid (acc' = acc7 ++ done) ∧ Hid (htmlL (bl css) items f l i 0 = (done ++ (htmlL (bl css) items f' l j cnt).1, (htmlL (bl css) items f' l j cnt).2))) (fun _ v11 _ => n - (intOf v11).toNat)
        case atStart => exact ⟨i, 0, f, acc7, [], Nat.le_refl _, Nat.le_of_lt hil, rfl, rfl, hs7, hen, Nat.le_refl _, Lib.hid (by rw [List.append_nil]), Lib.hid (by rw [List.nil_append])⟩
        case round =>
          obtain ⟨j, cnt, f', acc', done, hij, hjn, rfl, rfl, hsr, hen', hff, HD, HE⟩ := hrel
          clear hs7
          have hlenT : (htmlL (bl css) items f l i 0).1.length ≤ 5200000000 ∧ (htmlL (bl css) items f l i 0).2 ≤ 2000 := by
            obtain ⟨_, t2, t3, _⟩ := HTOT.out
            rw [← HN.out] at t2
            have t4 : (htmlL (bl css) items f l i 0).2 - 0 ≤ 2000 := by omega
            have := Nat.mul_le_mul t4 (Nat.le_refl 2600000)
            exact ⟨by omega, by omega⟩
          have hal : acc'.length ≤ acc7.length + 5200000000 := by
            have h1 := hlenT.1
            rw [HE.out] at h1
            rw [HD.out, List.length_append]
            simp only [List.length_append] at h1
            omega
          have hcnt : cnt ≤ 2000 := by
            have h1 := hlenT.2
            rw [HE.out] at h1
            have := (HSZ.out f' l j cnt (by rw [← HN.out]; exact hjn) hen').1
            simp only at h1
            omega
          obtain ⟨f2, rfl⟩ : ∃ f2, f' = f2 + 1 := ⟨f' - 1, by have := enough_pos hen'; omega⟩
          have HLT := Lib.hid hlenT
          clear hlenT
          have hcb3 : wr.cell? ⟨b, 3, none⟩ = some (.slice A n c) := blk_cell hsr.list.2.1 3
          by_cases hlt : j < n
          · obtain ⟨g, cap, pj, y, hv, hy, hpj, hcg, _, _, _⟩ := hsr.list.item (k := j) (by rw [← HN.out]; exact hlt)
            rw [← HN.out] at hv
            injection hv with e1 e2 e3
            subst e1 e3
            obtain ⟨ty, lj⟩ := y
            have hyb := HIT.out.2 _ (List.mem_of_getElem? hy)
            have hty : ty.size ≤ 100000 := hyb.1
            have hlj : lj ≤ 2000 := hyb.2
            have HY := Lib.hid hy
            have HPJ := Lib.hid hpj
            have hji : (j : Int) < (n : Int) := by omega
            have hyc := (hsr.list.cellp hpj hy).1
            have hxc := (hsr.list.cellp HP.out HX.out).1
            clear hyb hy hpj e2
            by_cases he : lj = l
            · subst he
              have HH := Lib.hid (html_same (css := bl css) (f := f2) (cnt := cnt) HY.out rfl)
              obtain ⟨es, hes⟩ : ∃ es : ByteArray, bl es = escH (bl ty) := ⟨⟨(escH (bl ty)).toArray⟩, rfl⟩
              have hesz : es.size ≤ 500000 := by rw [← bl_size, hes]; have := escH_len (bl ty); rw [bl_size] at this; omega
              have HES := Lib.hid (show (⟨(escH (bl ty)).toArray⟩ : ByteArray) = es by apply bl_ext; rw [hes])
              obtain ⟨rs, hrs⟩ : ∃ rs : ByteArray, bl rs = replL [10] BR (escH (bl ty)) := ⟨⟨(replL [10] BR (escH (bl ty))).toArray⟩, rfl⟩
              have hrsz : rs.size ≤ 2500000 := by rw [← bl_size, hrs, ← hes]; have := br_len (bl es); rw [bl_size] at this; omega
              have HRS := Lib.hid (show (⟨(replL (bl ⟨#[10]⟩) (bl ⟨#[60, 98, 114, 47, 62]⟩) (bl es)).toArray⟩ : ByteArray) = rs by apply bl_ext; rw [hrs, hes]; rfl)
              have HRL := Lib.hid hrs
              have hrl : (replL (bl ⟨#[10]⟩) (bl ⟨#[60, 98, 114, 47, 62]⟩) (bl es)).length ≤ 140737488355328 := by
                have := br_len (bl es)
                rw [bl_size] at this
                show (replL [10] BR (bl es)).length ≤ _
                omega
              clear hes hrs
              go_wp2_with fail
              go_quiet (fail)
              have hsq := hsr.drewN nq
              clear hsr
              go_wp2_with fail
              refine (hs_put pre 4000 hsq hprez (by omega)).mono ?_
              rintro e v1 ⟨a1, ⟨r1, rfl⟩, hs1, HA1, hl1⟩
              clear hsq
              go_wp2_with fail
              refine (hs_put ⟨#[32, 32, 60, 108, 105, 62]⟩ 6 hs1 (by decide) (by omega)).mono ?_
              rintro e v2 ⟨a2, ⟨r2, rfl⟩, hs2, HA2, hl2⟩
              clear hs1 hcb3 hcg hyc hxc
              have k3 : v2.cell? ⟨b, 3, none⟩ = some (.slice (some ⟨g, 0, none⟩) n c) := blk_cell hs2.list.2.1 3
              have kg := hs2.list.cellg HN.out HPJ.out
              have kt := (hs2.list.cellp HPJ.out HY.out).2
              go_wp2_with fail
              refine (hesc_any ty _ (by omega)).mono ?_
              rintro e v3 ⟨rfl, hb3⟩
              rw [HES.out]
              have hs3 := hs2.below hb3
              clear hs2 hb3 k3 kg kt
              go_wp2_with fail
              refine (lreplace_any es ⟨#[10]⟩ ⟨#[60, 98, 114, 47, 62]⟩ _ (by omega) (by decide) (by decide) hrl).mono ?_
              rintro e v4 ⟨rfl, hb4⟩
              rw [HRS.out]
              have hs4 := hs3.below hb4
              clear hs3 hb4
              go_wp2_with fail
              refine (hs_put rs 2500000 hs4 hrsz (by omega)).mono ?_
              rintro e v5 ⟨a5, ⟨r5, rfl⟩, hs5, HA5, hl5⟩
              clear hs4
              go_wp2_with fail
              refine (hs_put ⟨#[60, 47, 108, 105, 62, 10]⟩ 6 hs5 (by decide) (by omega)).mono ?_
              rintro e v6 ⟨a6, ⟨r6, rfl⟩, hs6, HA6, hl6⟩
              clear hs5
              have HAD := Lib.hid (show a6 = acc7 ++ (done ++ lineH lj (bl ty)) by
                rw [HA6.out, HA5.out, HA2.out, HA1.out, HPRE.out, HRL.out, HD.out]; simp only [lineH, List.append_assoc])
              have HED := Lib.hid (show htmlL (bl css) items f lj i 0 = ((done ++ lineH lj (bl ty)) ++ (htmlL (bl css) items f2 lj (j + 1) (cnt + 1)).1, (htmlL (bl css) items f2 lj (j + 1) (cnt + 1)).2) by
                rw [HE.out, HH.out]; simp only [List.append_assoc])
              clear hl1 hl2 hl5 hl6 HA1 HA2 HA5 HA6
              go_wp2
              go_roundw
              case rel => exact ⟨j + 1, cnt + 1, f2, a6, _, by omega, by omega, by go_num, by go_num, hs6, enough_same hen' HY.out, by omega, HAD, HED⟩
              case measure => simp [intOf]; omega
            · have he1 : ((lj : Int) == (l : Int)) = false := by rw [beq_eq_false_iff_ne]; omega
              by_cases hd : l < lj
              · have hdi : (l : Int) < (lj : Int) := by omega
                have HH := Lib.hid (html_deep (css := bl css) (f := f2) (cnt := cnt) HY.out hd)
                have HEN := Lib.hid (enough_in hen' HY.out he)
                obtain ⟨_, m2, _, m4⟩ := HSZ.out f2 lj j 0 (by rw [← HN.out]; exact hjn) HEN.out
                have m5 := (m4 _ HY.out rfl).1
                rw [← HN.out] at m2
                obtain ⟨nn, hnn⟩ : ∃ nn, nn = (htmlL (bl css) items f2 lj j 0).2 := ⟨_, rfl⟩
                rw [← hnn] at m2 m5
                have HNN := Lib.hid hnn
                have hEO := enough_out hen' HY.out he (n := nn) (by omega) (by rw [← HN.out]; omega)
                clear hnn m4
                go_wp2_with fail
                go_quiet (fail)
                have hsq := hsr.drewN nq
                go_wp2_with fail
                go_quiet (fail)
                have hsq2 := hsq.drewN nq
                rw [World.drewN_drewN] at hsq2
                have hpos : (0 : Int) < (cnt : Int) + (nn : Int) := by omega
                have HL1 := Lib.hid (show (acc' ++ openH (bl css) lj ++ (htmlL (bl css) items f2 lj j 0).1 ++ closeH lj).length ≤ acc7.length + 5200000000 by
                  have h1 := HLT.out.1
                  rw [HE.out, HH.out] at h1
                  rw [HD.out]
                  simp only [List.length_append] at h1 ⊢
                  omega)
                go_wp2_with fail
                refine (ih f2 (by omega) (by omega) j pj (ty, lj) acc' _ HEN.out HY.out HPJ.out hsq2.more (by omega)).mono ?_
                rintro e v1 ⟨hee, hs1⟩
                dsimp only at hee hs1
                rw [← HNN.out] at hee
                subst hee
                have hs2 := hsq2.of hs1
                have HHA := HL1.out
                obtain ⟨a1, ha1⟩ : ∃ a1, a1 = acc' ++ openH (bl css) lj ++ (htmlL (bl css) items f2 lj j 0).1 ++ closeH lj := ⟨_, rfl⟩
                rw [← ha1] at hs2 HHA
                have HA1 := Lib.hid ha1
                clear hs1 hsq hsq2 hsr ha1 hcb3 hcg hyc hxc
                go_wp2_with fail
                refine (hs_putRune 10 [10] (by decide) (by decide) (by decide) (by decide) hs2 (by omega)).mono ?_
                rintro e v2 ⟨a2, ⟨r2, rfl⟩, hs3, HA2, hl2⟩
                clear hs2
                have HAD := Lib.hid (show a2 = acc7 ++ (done ++ (openH (bl css) lj ++ (htmlL (bl css) items f2 lj j 0).1 ++ closeH lj ++ [10])) by
                  rw [HA2.out, HA1.out, HD.out]; simp only [List.append_assoc])
                have HED := Lib.hid (show htmlL (bl css) items f l i 0 = ((done ++ (openH (bl css) lj ++ (htmlL (bl css) items f2 lj j 0).1 ++ closeH lj ++ [10])) ++ (htmlL (bl css) items f2 l (j + nn) (cnt + nn)).1, (htmlL (bl css) items f2 l (j + nn) (cnt + nn)).2) by
                  rw [HE.out, HH.out]
                  dsimp only
                  rw [← HNN.out, if_pos (by omega : 0 < cnt + nn)]; simp only [List.append_assoc])
                go_wp2
                go_roundw
                case rel => exact ⟨j + nn, cnt + nn, f2, a2, _, by omega, by omega, by go_num, by first | go_num | (congr 1; omega), hs3, hEO, by omega, HAD, HED⟩
                case measure => simp [intOf]; omega
              · have hdi : decide ((l : Int) < (lj : Int)) = false := by rw [decide_eq_false_iff_not]; omega
                have HH := Lib.hid (html_up (css := bl css) (f := f2) (cnt := cnt) HY.out (by show lj < l; omega))
                have HR1 := Lib.hid (show (htmlL (bl css) items f l i 0).2 = cnt by rw [HE.out, HH.out])
                have HR2 := Lib.hid (show acc' = acc7 ++ (htmlL (bl css) items f l i 0).1 by rw [HD.out, HE.out, HH.out]; simp)
                go_wp2_with fail
                go_quiet (fail)
                have hsq := hsr.drewN nq
                go_wp2_with fail
                go_quiet (fail)
                have hsq2 := hsq.drewN nq
                go_wp2_with fail
                go_meet
                exact ⟨acc', by rw [HR1.out], hsq2, HR2⟩
          · have hjn2 : j = n := by omega
            have HH := Lib.hid (html_none (css := bl css) (f := f2) (lv := l) (cnt := cnt) (show items[j]? = none from List.getElem?_eq_none (by rw [← HN.out]; omega)))
            have HR1 := Lib.hid (show (htmlL (bl css) items f l i 0).2 = cnt by rw [HE.out, HH.out])
            have HR2 := Lib.hid (show acc' = acc7 ++ (htmlL (bl css) items f l i 0).1 by rw [HD.out, HE.out, HH.out]; simp)
            go_wp2_with fail
            go_meet
            exact ⟨acc', by rw [HR1.out], hsr, HR2⟩
      case rest =>
        obtain ⟨acc8, rfl, hs8, HA8⟩ := hcut
        have hlt8 : acc8.length ≤ acc7.length + 5200000000 := by
          obtain ⟨_, t2, t3, _⟩ := HTOT.out
          rw [← HN.out] at t2
          have t4 : (htmlL (bl css) items f l i 0).2 - 0 ≤ 2000 := by omega
          have := Nat.mul_le_mul t4 (Nat.le_refl 2600000)
          rw [HA8.out, List.length_append]
          omega
        obtain ⟨tot, htot⟩ : ∃ tot, tot = (htmlL (bl css) items f l i 0).2 := ⟨_, rfl⟩
        rw [← htot]
        have HTT := Lib.hid htot
        clear htot hs7
        go_wp2_with fail
        refine (hs_put pre 4000 hs8 hprez (by omega)).mono ?_
        rintro e v1 ⟨a1, ⟨r1, rfl⟩, hs9, HA9, hl9⟩
        clear hs8
        go_wp2_with fail
        refine (hs_put ⟨#[60, 47, 117, 108, 62]⟩ 5 hs9 (by decide) (by omega)).mono ?_
        rintro e v2 ⟨a2, ⟨r2, rfl⟩, hs10, HA10, hl10⟩
        clear hs9
        have HF := Lib.hid (show a2 = acc ++ openH (bl css) l ++ (htmlL (bl css) items f l i 0).1 ++ closeH l by
          rw [HA10.out, HA9.out, HA8.out, HO.out, HPRE.out]; simp only [closeH, List.append_assoc])
        go_wp2
        go_ret
        refine ⟨ret_int (by rw [HTT.out]), ?_⟩
        rw [← HF.out]
        exact hs10
end Go.Proofs.YtdkpacgbniclhaaGreatDoor
