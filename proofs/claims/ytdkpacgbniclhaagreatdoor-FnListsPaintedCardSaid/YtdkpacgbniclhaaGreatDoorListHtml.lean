/- Walks of RenderHTML and impl.ListHTML: what some steps look like in HTML. Condition: sizes below the bounds that are named. -/
import Derived.Test.YtdkpacgbniclhaaGreatDoorHtml
namespace Go.Proofs.YtdkpacgbniclhaaGreatDoor
open Go.RowKit

theorem Bld.base {w : World} {B B' ob : Nat} {l : List UInt8} (h : Bld w B ob l) (hb : B' ≤ B) : Bld w B' ob l := by
  have key : ∀ p, Lib.BuilderAtF 106 5 B ob p (Lib.byteCells l) w → Lib.BuilderAtF 106 5 B' ob p (Lib.byteCells l) w := by
    intro p hp
    obtain ⟨h1, v, h2, h3, h4⟩ := hp
    refine ⟨by omega, v, h2, ⟨h3.1, ?_⟩, h4⟩
    rcases h3.2 with h5 | ⟨g, cap, cur, fz, hv, hg, r⟩
    · exact Or.inl h5
    · exact Or.inr ⟨g, cap, cur, fz, hv, by omega, r⟩
  rcases h with h | h
  · exact Or.inl (key _ h)
  · exact Or.inr (key _ h)

def htmlAll (css : List UInt8) (items : List (ByteArray × Nat)) : List UInt8 := match items with
  | [] => []
  | x :: _ => openH css x.2 ++ (htmlL css items (2 * items.length + 2) x.2 0 0).1 ++ closeH x.2

set_option maxHeartbeats 2000000 in
theorem listRender_any (B b ob : Nat) (acc : List UInt8) (w : World) (h : Bld w B ob acc) :
    Calls Tryz.prog 77 #[.pointer (some ⟨b, 0, none⟩), .pointer (some ⟨ob, 0, none⟩)] w fun e w' => e = .returned (.string ⟨acc.toArray⟩) ∧ Below B w w' := by
  have hlt := h.lt
  go_enter Tryz.func77, Tryz.ntmps77
  go_wp2_with fail
  refine (bld_string B ob acc w h (by omega)).mono ?_
  rintro e w1 ⟨rfl, _, hb1, _⟩
  go_wp2
  go_ret
  exact ⟨rfl, hb1⟩

set_option maxRecDepth 100000 in
set_option maxHeartbeats 8000000 in
theorem renderHTML_any (B b : Nat) (a : Int) (s1 css : ByteArray) (sty : Value) (st : StyleV) (items : List (ByteArray × Nat)) (lv : Nat) (w : World) (hB : B ≤ w.heap.size) (h : ListAt w B b a s1 css sty items lv) (hs : (sty = .pointer none ∧ st = plainStyle) ∨ ∃ q, sty = .pointer (some ⟨q, 0, none⟩) ∧ StyleAt w q st) (hst : smallStyle st) (hit : htmlItems items) (hcss : css.size ≤ 1000) :
    Calls Tryz.prog 48 #[.pointer (some ⟨b, 0, none⟩)] w fun e w' => e = .returned (.string ⟨(htmlAll (bl (classOf css)) items).toArray⟩) ∧ Below B w w' := by
  have hsm : smallItems items := ⟨hit.1, fun x hx => ⟨by have := (hit.2 x hx).1; omega, (hit.2 x hx).2⟩⟩
  have hcl : (classOf css).size ≤ 1000 := by unfold classOf; split; exact (by decide : DEFCLASS.size ≤ 1000); exact hcss
  obtain ⟨cl, hce⟩ : ∃ cl, cl = classOf css := ⟨_, rfl⟩
  rw [← hce] at hcl ⊢
  have HCE := Lib.hid hce
  clear hce
  have HIT := Lib.hid hit
  have HSM := Lib.hid hsm
  have HST := Lib.hid hst
  clear hit hsm hst
  go_enter Tryz.func48, Tryz.ntmps48
  go_wp2_with fail
  refine (init_any B b a s1 css sty st items lv w hB h hs HST.out HSM.out).mono ?_
  rintro e w1 ⟨rfl, q, a', ha', hla, _, hb1⟩
  rw [← HCE.out] at hla
  clear h hs
  obtain ⟨v, ptrs, hlv⟩ := hla.name
  have hBw1 : B ≤ w1.heap.size := by have := hb1.size; omega
  have hbox := (Below.refl w1.heap.size w1).alloc (Nat.le_refl _) (.cells #[.pointer none, .slice none 0 0] 106)
  have hlv2 := hlv.below hbox
  obtain ⟨A, c, rfl, _⟩ := own_rd hlv.2.2.1
  have hbld := Bld.fresh w1
  have hbA := hb1.trans (hbox.mono hBw1)
  have hblk : (w1.alloc (.cells #[.pointer none, .slice none 0 0] 106)).heap[w1.heap.size]? = some (.cells #[.pointer none, .slice none 0 0] 106 (0, 0)) := heap_alloc_new w1 _
  obtain ⟨n, hn⟩ : ∃ n, n = items.length := ⟨_, rfl⟩
  have hn2 : n ≤ 2000 := by rw [hn]; exact HIT.out.1
  have HN := Lib.hid hn
  rw [← HN.out] at hlv2 hlv
  have HLV := Lib.hid hlv
  have HBOX := Lib.hid hbox
  clear hn hla hlv hbox
  have k3 : (w1.alloc (.cells #[.pointer none, .slice none 0 0] 106)).cell? ⟨b, 3, none⟩ = some (.slice A n c) := blk_cell hlv2.2.1 3
  have k0 : (w1.alloc (.cells #[.pointer none, .slice none 0 0] 106)).cell? ⟨b, 0, none⟩ = some (.int .i64 a') := blk_cell hlv2.2.1 0
  by_cases hz : n = 0
  · have HR := Lib.hid (show htmlAll (bl cl) items = [] by
      have : items = [] := List.eq_nil_of_length_eq_zero (by rw [← HN.out]; exact hz)
      rw [this]; rfl)
    subst hz
    have hbB := hbld.base hBw1
    clear hbld hblk
    go_wp2_with fail
    refine (listRender_any B b _ [] _ hbB).mono ?_
    rintro e w3 ⟨rfl, hb3⟩
    have hb4 := hbA.trans hb3
    go_wp2
    go_ret
    exact ⟨ret_str (by rw [HR.out]), hb4⟩
  · have hn0 : (0 : Int) < (n : Int) := by omega
    have ha2 : a' ≤ 281474976710656 := by omega
    go_wp2_with fail
    refine (bld_grow w1.heap.size w1.heap.size a' _ (Nat.le_refl _) hblk (by simp) ha2).mono ?_
    rintro e w3 ⟨rfl, hb3, hbel3⟩
    have hlv3 : ListV w3 B b a' (spacesOf st) cl (.pointer (some ⟨q, 0, none⟩)) (.slice A n c) ptrs items lv := HLV.out.below (HBOX.out.trans hbel3)
    have hs3 : HS w w3 B b w1.heap.size a' (spacesOf st) cl (.pointer (some ⟨q, 0, none⟩)) (.slice A n c) ptrs items lv [] := ⟨hlv3, hb3.base hBw1, hbA.trans (hbel3.mono hBw1)⟩
    obtain ⟨g, cap, p, x, hv, hx, hp, hcg, _, _, _⟩ := hlv3.item (k := 0) (by rw [← HN.out]; omega)
    rw [← HN.out] at hv
    injection hv with e1 e2 e3
    subst e1 e3
    have HX := Lib.hid hx
    have HP := Lib.hid hp
    have j3 : w3.cell? ⟨b, 3, none⟩ = some (.slice (some ⟨g, 0, none⟩) n c) := blk_cell hlv3.2.1 3
    have hen : enough items (2 * n + 2) x.2 0 := Or.inl (by rw [← HN.out]; omega)
    clear k3 k0 hbld hblk hb3 hbel3 hlv2 hlv3 hx hp e2 hz
    go_wp2_with fail
    refine (html_rec B b w1.heap.size a' (spacesOf st) cl _ _ ptrs items lv HIT.out hcl 5000 (2 * n + 2) (by omega) (by omega) 0 p x [] _ hen HX.out HP.out hs3.more (by simp; omega)).mono ?_
    rintro e w4 ⟨rfl, hs4⟩
    have hs5 := hs3.of hs4
    have HR := Lib.hid (show [] ++ openH (bl cl) x.2 ++ (htmlL (bl cl) items (2 * n + 2) x.2 0 0).1 ++ closeH x.2 = htmlAll (bl cl) items by
      rw [HN.out]
      cases items with
      | nil => have := HX.out; simp at this
      | cons y r => have := HX.out; simp at this; subst this; rfl)
    rw [HR.out] at hs5
    clear hs3 hs4 j3 hcg
    go_wp2_with fail
    refine (listRender_any B b _ _ _ hs5.bld).mono ?_
    rintro e w6 ⟨rfl, hb6⟩
    have hb7 := hs5.kept.trans hb6
    go_wp2
    go_ret
    exact ⟨rfl, hb7⟩
end Go.Proofs.YtdkpacgbniclhaaGreatDoor
