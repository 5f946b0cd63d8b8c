/- Walk of the list's rendering in HTML: what it makes of the items. Condition: sizes below the bounds that are named. -/
import Derived.Test.YtdkpacgbniclhaaDoorHtmlPlain
import Derived.Test.YtdkpacgbniclhaaDoorInit
import Derived.Test.YtdkpacgbniclhaaDoorBuild
import Derived.Test.YtdkpacgbniclhaaDoorColor
namespace Go.Proofs.YtdkpacgbniclhaaDoor
open Go.RowKit

theorem Bld.kind {w : World} {BB ob : Nat} {l : List UInt8} (h : Bld w BB ob l) : ∃ cs, w.heap[ob]? = some (.cells cs 97 (0, 0)) := by
  rcases h with h | h
  · obtain ⟨_, v, hb, _⟩ := h; exact ⟨_, hb⟩
  · obtain ⟨_, v, hb, _⟩ := h; exact ⟨_, hb⟩
theorem ListV.others {w w' : World} {B b ob : Nat} {a : Int} {s1 css : ByteArray} {sty v : Value} {ptrs : List Nat} {items : List (ByteArray × Nat)} {lv : Nat} {cs : Array Value} (h : ListV w B b a s1 css sty v ptrs items lv) (hob : w.heap[ob]? = some (.cells cs 97 (0, 0))) (ho : Lib.OthersKept 5 (some ob) w w') : ListV w' B b a s1 css sty v ptrs items lv := by
  obtain ⟨hBb, hblk, hown, hit⟩ := h
  have key : ∀ (k : Nat) (c : Array Value) (t : TypeId), t ≠ 97 → t ≠ 5 → w.heap[k]? = some (.cells c t (0, 0)) → w'.heap[k]? = some (.cells c t (0, 0)) := by
    intro k c t h1 h2 hk
    refine ho k _ hk ?_ ?_
    · intro e
      injection e with e
      subst e
      rw [hk] at hob
      injection hob with hob
      injection hob with _ hob
      exact h1 hob
    · intro c' fz e
      injection e with _ e
      exact h2 e
  refine ⟨hBb, key b _ _ (by decide) (by decide) hblk, own_others hown ho (by decide) (own_blk hown hob (by decide)), fun k p x hp hx => ?_⟩
  obtain ⟨h1, h2⟩ := hit k p x hp hx
  exact ⟨h1, key p _ _ (by decide) (by decide) h2⟩

/-- What is known while a list is written: the list, the builder. -/
structure HS (w0 wx : World) (B b ob : Nat) (a : Int) (s1 css : ByteArray) (sty v : Value) (ptrs : List Nat) (items : List (ByteArray × Nat)) (lv : Nat) (acc : List UInt8) : Prop where
  list : ListV wx B b a s1 css sty v ptrs items lv
  bld : Bld wx B ob acc
  kept : Below B w0 wx
section
variable {w0 wx wy : World} {B b ob : Nat} {a : Int} {s1 css : ByteArray} {sty v : Value} {ptrs : List Nat} {items : List (ByteArray × Nat)} {lv : Nat} {acc : List UInt8}
theorem HS.below (h : HS w0 wx B b ob a s1 css sty v ptrs items lv acc) (hb : Below wx.heap.size wx wy) : HS w0 wy B b ob a s1 css sty v ptrs items lv acc :=
  ⟨h.list.below hb, h.bld.below hb, h.kept.trans (hb.mono (by have := h.bld.lt; omega))⟩
theorem HS.B_le (h : HS w0 wx B b ob a s1 css sty v ptrs items lv acc) : B ≤ wx.heap.size := by have := h.bld.lt; omega
theorem HS.more (h : HS w0 wx B b ob a s1 css sty v ptrs items lv acc) : HS wx wx B b ob a s1 css sty v ptrs items lv acc := ⟨h.list, h.bld, Below.refl _ _⟩
theorem HS.of (h : HS w0 wx B b ob a s1 css sty v ptrs items lv acc) {acc2 : List UInt8} (h2 : HS wx wy B b ob a s1 css sty v ptrs items lv acc2) : HS w0 wy B b ob a s1 css sty v ptrs items lv acc2 := ⟨h2.list, h2.bld, h.kept.trans h2.kept⟩
theorem HS.drewN (h : HS w0 wx B b ob a s1 css sty v ptrs items lv acc) (n : Nat) : HS w0 (wx.drewN n) B b ob a s1 css sty v ptrs items lv acc := ⟨h.list, h.bld, below_drewN h.kept n⟩

theorem hs_write (s : ByteArray) (h : HS w0 wx B b ob a s1 css sty v ptrs items lv acc) (hl : acc.length + s.size ≤ 140737488355328) :
    Calls Tryd.prog 74 #[.pointer (some ⟨ob, 0, none⟩), .string s] wx fun e w' => (∃ r, e = .returned r) ∧ HS w0 w' B b ob a s1 css sty v ptrs items lv (acc ++ bl s) := by
  obtain ⟨cs, hk⟩ := h.bld.kind
  refine (bld_write B ob acc s wx h.bld hl h.B_le).mono ?_
  rintro e w' ⟨he, hb, hbel, hok⟩
  exact ⟨⟨_, he⟩, h.list.others hk hok, hb, h.kept.trans hbel⟩
theorem hs_rune (r : Int) (h0 : 0 ≤ r) (h1 : r ≤ 127) (h : HS w0 wx B b ob a s1 css sty v ptrs items lv acc) (hl : acc.length + 4 ≤ 140737488355328) :
    Calls Tryd.prog 75 #[.pointer (some ⟨ob, 0, none⟩), .int .i32 r] wx fun e w' => (∃ r, e = .returned r) ∧ HS w0 w' B b ob a s1 css sty v ptrs items lv (acc ++ Lib.encodeRune r) := by
  obtain ⟨cs, hk⟩ := h.bld.kind
  refine (bld_rune B ob acc r (by omega) (by omega) wx h.bld hl h.B_le).mono ?_
  rintro e w' ⟨he, hb, hbel, hok⟩
  exact ⟨⟨_, he⟩, h.list.others hk hok, hb, h.kept.trans hbel⟩

/-- .. the bytes under one name. -/
theorem hs_put (s : ByteArray) (m : Nat) (h : HS w0 wx B b ob a s1 css sty v ptrs items lv acc) (hm : s.size ≤ m) (hl : acc.length + m ≤ 140737488355328) :
    Calls Tryd.prog 74 #[.pointer (some ⟨ob, 0, none⟩), .string s] wx fun e w' => ∃ acc2, (∃ r, e = .returned r) ∧ HS w0 w' B b ob a s1 css sty v ptrs items lv acc2 ∧ Hid (acc2 = acc ++ bl s) ∧ acc2.length ≤ acc.length + m :=
  (hs_write s h (by omega)).mono fun _ _ ⟨h1, h2⟩ => ⟨_, h1, h2, Lib.hid rfl, by rw [List.length_append, bl_size]; omega⟩
theorem hs_putRune (r : Int) (l : List UInt8) (h0 : 0 ≤ r) (h1 : r ≤ 127) (he : Lib.encodeRune r = l) (hle : l.length ≤ 1) (h : HS w0 wx B b ob a s1 css sty v ptrs items lv acc) (hl : acc.length + 4 ≤ 140737488355328) :
    Calls Tryd.prog 75 #[.pointer (some ⟨ob, 0, none⟩), .int .i32 r] wx fun e w' => ∃ acc2, (∃ r, e = .returned r) ∧ HS w0 w' B b ob a s1 css sty v ptrs items lv acc2 ∧ Hid (acc2 = acc ++ l) ∧ acc2.length ≤ acc.length + 1 :=
  (hs_rune r h0 h1 h hl).mono fun _ _ ⟨h2, h3⟩ => ⟨_, h2, h3, Lib.hid (by rw [he]), by rw [List.length_append, he]; omega⟩
end

theorem ListV.cellg {w : World} {B b g n cap k p : Nat} {a : Int} {s1 css : ByteArray} {sty : Value} {ptrs : List Nat} {items : List (ByteArray × Nat)} {lv : Nat} (h : ListV w B b a s1 css sty (.slice (some ⟨g, 0, none⟩) n cap) ptrs items lv) (hn : n = items.length) (hp : ptrs[k]? = some p) : w.cell? ⟨g, k, none⟩ = some (.pointer (some ⟨p, 0, none⟩)) := by
  subst hn
  have hown := h.2.2.1
  have hlen : ptrs.length = items.length := by have := hown.1; simpa using this
  have hk : k < ptrs.length := (List.getElem?_eq_some_iff.1 hp).1
  rw [hown.cellAt k (by omega), List.getElem?_map, hp]; rfl

/-- Sizes of items, of a class, for HTML. -/
def htmlItems (items : List (ByteArray × Nat)) : Prop := items.length ≤ 2000 ∧ ∀ x ∈ items, x.1.size ≤ 100000 ∧ x.2 ≤ 2000

end Go.Proofs.YtdkpacgbniclhaaDoor
