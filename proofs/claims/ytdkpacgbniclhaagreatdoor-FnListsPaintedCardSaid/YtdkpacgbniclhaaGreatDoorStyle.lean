/- Walks of the list's own functions before a rendering (Style, initForRender): what they make of the list. Condition: sizes below the bounds that are named. -/
import Derived.Test.YtdkpacgbniclhaaGreatDoorListOf
import Derived.Deep.DeepCutAuto
import Derived.Laws.ResultCell
namespace Go.Proofs.YtdkpacgbniclhaaGreatDoor
open Go.RowKit

/-- A style of a list. -/
structure StyleV where
  fmt : Int
  single : ByteArray
  top : ByteArray
  first : ByteArray
  middle : ByteArray
  vert : ByteArray
  bottom : ByteArray
  newline : ByteArray
  pfx : ByteArray
  nm : ByteArray
def StyleV.cells (st : StyleV) : Array Value := #[.int .i64 st.fmt, .string st.single, .string st.top, .string st.first, .string st.middle, .string st.vert, .string st.bottom, .string st.newline, .string st.pfx, .string st.nm]
def StyleAt (w : World) (q : Nat) (st : StyleV) : Prop := w.heap[q]? = some (.cells st.cells 77 (0, 0))
theorem StyleAt.below {w w' : World} {q : Nat} {st : StyleV} (h : StyleAt w q st) (hb : Below w.heap.size w w') : StyleAt w' q st := (hb.block q (blk_lt h)).trans h
def plainStyle : StyleV := ⟨0, ⟨#[42]⟩, ⟨#[42]⟩, ⟨#[42]⟩, ⟨#[42]⟩, ⟨#[32, 32]⟩, ⟨#[42]⟩, ⟨#[10]⟩, ⟨#[]⟩, ⟨#[83, 116, 121, 108, 101, 68, 101, 102, 97, 117, 108, 116]⟩⟩

/-- A field of the list is set (not the items). -/
theorem list_put {w : World} {B b : Nat} {a : Int} {s1 css : ByteArray} {sty : Value} {items : List (ByteArray × Nat)} {lv : Nat} (h : ListAt w B b a s1 css sty items lv) (i : Nat) (u : Value) {a' : Int} {s1' css' : ByteArray} {sty' : Value} {lv' : Nat}
    (hset : ∀ v : Value, (#[.int .i64 a, .string s1, .string css, v, .int .i64 lv, sty] : Array Value).setIfInBounds i u = #[.int .i64 a', .string s1', .string css', v, .int .i64 lv', sty']) :
    ListAt (w.setCell ⟨b, i, none⟩ u) B b a' s1' css' sty' items lv' ∧ Below B w (w.setCell ⟨b, i, none⟩ u) ∧ ∀ (k : Nat) (o : Obj), k ≠ b → w.heap[k]? = some o → (w.setCell ⟨b, i, none⟩ u).heap[k]? = some o := by
  obtain ⟨hBb, v, ptrs, hblk, hown, hit⟩ := h
  have far : ∀ (k : Nat) (o : Obj), k ≠ b → w.heap[k]? = some o → (w.setCell ⟨b, i, none⟩ u).heap[k]? = some o := fun k o hk h => (heap_setCell_other w ⟨b, i, none⟩ k _ hk).trans h
  refine ⟨⟨hBb, v, ptrs, ?_, ?_, ?_⟩, (Below.refl _ _).setCell hBb _, far⟩
  · rw [← hset v]; exact heap_setCell_same w b i _ _ u hblk
  · exact ownsRow_setCell_other hown (a := ⟨b, i, none⟩) (fun e => own_blk hown hblk (by decide) e.symm) _
  · intro k p x hp hx
    obtain ⟨h1, h2⟩ := hit k p x hp hx
    refine ⟨h1, far p _ ?_ h2⟩
    intro e
    subst e
    rw [hblk] at h2
    injection h2 with h2
    injection h2 with _ h2
    cases h2
theorem ListAt.cells {w : World} {B b : Nat} {a : Int} {s1 css : ByteArray} {sty : Value} {items : List (ByteArray × Nat)} {lv : Nat} (h : ListAt w B b a s1 css sty items lv) : ∃ v : Value, w.heap[b]? = some (.cells #[.int .i64 a, .string s1, .string css, v, .int .i64 lv, sty] 100 (0, 0)) := by
  obtain ⟨_, v, ptrs, h1, _⟩ := h; exact ⟨v, h1⟩
theorem style_ne {w : World} {B b q : Nat} {a : Int} {s1 css : ByteArray} {sty : Value} {items : List (ByteArray × Nat)} {lv : Nat} {st : StyleV} (h : ListAt w B b a s1 css sty items lv) (hq : StyleAt w q st) : q ≠ b := by
  obtain ⟨v, hv⟩ := h.cells
  intro e
  subst e
  unfold StyleAt at hq
  rw [hv] at hq
  injection hq with hq
  injection hq with _ hq
  cases hq

section
variable (B b : Nat) (a : Int) (s1 css : ByteArray) (items : List (ByteArray × Nat)) (lv : Nat) (w : World)

set_option maxRecDepth 100000 in
set_option maxHeartbeats 2000000 in
theorem style_new (hB : B ≤ w.heap.size) (h : ListAt w B b a s1 css (.pointer none) items lv) :
    Calls Tryz.prog 94 #[.pointer (some ⟨b, 0, none⟩)] w fun e w' => ∃ q, e = .returned (.pointer (some ⟨q, 0, none⟩)) ∧ ListAt w' B b a s1 css (.pointer (some ⟨q, 0, none⟩)) items lv ∧ StyleAt w' q plainStyle ∧ Below B w w' := by
  obtain ⟨v, hv⟩ := h.cells
  have hc5 : w.cell? ⟨b, 5, none⟩ = some (.pointer none) := blk_cell hv 5
  have hf5 := blk_frozen hv 5
  have hlt := blk_lt hv
  go_enter Tryz.func94, Tryz.ntmps94
  go_wp2
  go_ret
  have hp := list_put h 5 (.pointer (some ⟨w.heap.size + 1, 0, none⟩)) (a' := a) (s1' := s1) (css' := css) (sty' := .pointer (some ⟨w.heap.size + 1, 0, none⟩)) (lv' := lv) (fun _ => rfl)
  have h1 := hp.1.below ((Below.refl _ _).alloc (Nat.le_refl _) (.cells plainStyle.cells 77))
  have h2 := h1.below ((Below.refl _ _).alloc (Nat.le_refl _) (.cells plainStyle.cells 77))
  refine ⟨w.heap.size + 1, rfl, h2, ?_, ?_⟩
  · have hn := heap_alloc_new ((w.setCell ⟨b, 5, none⟩ (.pointer (some ⟨w.heap.size + 1, 0, none⟩))).alloc (.cells plainStyle.cells 77)) (.cells plainStyle.cells 77)
    have hz : ((w.setCell ⟨b, 5, none⟩ (.pointer (some ⟨w.heap.size + 1, 0, none⟩))).alloc (.cells plainStyle.cells 77)).heap.size = w.heap.size + 1 := by simp
    rw [hz] at hn
    exact hn
  · exact (hp.2.1.alloc (by simp; omega) _).alloc (by simp; omega) _

set_option maxRecDepth 100000 in
set_option maxHeartbeats 2000000 in
theorem style_old (q : Nat) (h : ListAt w B b a s1 css (.pointer (some ⟨q, 0, none⟩)) items lv) :
    Calls Tryz.prog 94 #[.pointer (some ⟨b, 0, none⟩)] w fun e w' => e = .returned (.pointer (some ⟨q, 0, none⟩)) ∧ w = w' := by
  obtain ⟨v, hv⟩ := h.cells
  have hc5 : w.cell? ⟨b, 5, none⟩ = some (.pointer (some ⟨q, 0, none⟩)) := blk_cell hv 5
  clear hv h
  go_enter Tryz.func94, Tryz.ntmps94
  go_wp2
  go_ret
  exact ⟨rfl, rfl⟩
end

theorem rcount_any (s : ByteArray) (w : World) (hs : s.size ≤ 1099511627776) :
    Calls Tryz.prog 96 #[.string s] w fun e w' => e = .returned (.int .i64 (Lib.runeCount s)) ∧ Below w.heap.size w w' :=
  (Tryz.utf8_RuneCountInString s w (by omega)).mono fun e w' ⟨h1, p, h2⟩ => ⟨h1, by rw [h2]; exact (Below.refl _ w).alloc (Nat.le_refl _) _⟩
theorem repeatL_nil (c : Nat) : Lib.repeatL [] c = [] := by induction c with
  | zero => rfl
  | succ c ih => rw [Lib.repeatL, ih]; rfl
theorem repeatAny_any (s : ByteArray) (c : Nat) (w : World) (hs : 0 < s.size) (hs2 : s.size ≤ 1048576) (hc : c ≤ 1048576) :
    Calls Tryz.prog 95 #[.string s, .int .i64 c] w fun e w' => e = .returned (.string ⟨(Lib.repeatL (bl s) c).toArray⟩) ∧ Below w.heap.size w w' := by
  match c, hc with
  | 0, _ => exact (Tryz.strings_Repeat_zero s w).mono fun e w' ⟨h1, h2⟩ => ⟨h1, by rw [h2]; exact Below.refl _ _⟩
  | 1, _ => exact (Tryz.strings_Repeat_one s w).mono fun e w' ⟨h1, h2⟩ => ⟨by rw [h1]; congr 2; apply bl_ext; rw [bl_mk, Lib.repeatL, Lib.repeatL, List.append_nil], by rw [h2]; exact Below.refl _ _⟩
  | c + 2, hc =>
    have hle : s.size * (c + 2) ≤ 1048576 * 1048576 := Nat.mul_le_mul hs2 hc
    exact Tryz.strings_Repeat_main s (c + 2) w (by omega) (by omega) (by omega) hs

/-- The list in block b, its row of items named. -/
def ListV (w : World) (B b : Nat) (a : Int) (s1 css : ByteArray) (sty v : Value) (ptrs : List Nat) (items : List (ByteArray × Nat)) (lv : Nat) : Prop :=
  B ≤ b ∧ w.heap[b]? = some (.cells #[.int .i64 a, .string s1, .string css, v, .int .i64 lv, sty] 100 (0, 0)) ∧
    w.ownsRow B 108 1 v items.length (ptrs.map fun p => .pointer (some ⟨p, 0, none⟩)) ∧
    ∀ (k p : Nat) (x : ByteArray × Nat), ptrs[k]? = some p → items[k]? = some x → B ≤ p ∧ w.heap[p]? = some (.cells #[.int .i64 x.2, .string x.1] 110 (0, 0))
theorem ListAt.name {w : World} {B b : Nat} {a : Int} {s1 css : ByteArray} {sty : Value} {items : List (ByteArray × Nat)} {lv : Nat} (h : ListAt w B b a s1 css sty items lv) : ∃ v ptrs, ListV w B b a s1 css sty v ptrs items lv := by
  obtain ⟨h0, v, ptrs, h1, h2, h3⟩ := h; exact ⟨v, ptrs, h0, h1, h2, h3⟩
theorem ListV.at_ {w : World} {B b : Nat} {a : Int} {s1 css : ByteArray} {sty v : Value} {ptrs : List Nat} {items : List (ByteArray × Nat)} {lv : Nat} (h : ListV w B b a s1 css sty v ptrs items lv) : ListAt w B b a s1 css sty items lv := by
  obtain ⟨h0, h1, h2, h3⟩ := h; exact ⟨h0, v, ptrs, h1, h2, h3⟩
theorem ListV.below {w w' : World} {B b : Nat} {a : Int} {s1 css : ByteArray} {sty v : Value} {ptrs : List Nat} {items : List (ByteArray × Nat)} {lv : Nat} (h : ListV w B b a s1 css sty v ptrs items lv) (hb : Below w.heap.size w w') : ListV w' B b a s1 css sty v ptrs items lv := by
  obtain ⟨hBb, hblk, hown, hit⟩ := h
  refine ⟨hBb, (hb.block b (blk_lt hblk)).trans hblk, own_below hown hb (Nat.le_refl _), fun k p x hp hx => ?_⟩
  obtain ⟨h1, h2⟩ := hit k p x hp hx
  exact ⟨h1, (hb.block p (blk_lt h2)).trans h2⟩
theorem ListV.put {w : World} {B b : Nat} {a : Int} {s1 css : ByteArray} {sty v : Value} {ptrs : List Nat} {items : List (ByteArray × Nat)} {lv : Nat} (h : ListV w B b a s1 css sty v ptrs items lv) (i : Nat) (u : Value) {a' : Int} {s1' css' : ByteArray} {sty' : Value} {lv' : Nat}
    (hset : (#[.int .i64 a, .string s1, .string css, v, .int .i64 lv, sty] : Array Value).setIfInBounds i u = #[.int .i64 a', .string s1', .string css', v, .int .i64 lv', sty']) :
    ListV (w.setCell ⟨b, i, none⟩ u) B b a' s1' css' sty' v ptrs items lv' ∧ Below B w (w.setCell ⟨b, i, none⟩ u) ∧ ∀ (k : Nat) (o : Obj), k ≠ b → w.heap[k]? = some o → (w.setCell ⟨b, i, none⟩ u).heap[k]? = some o := by
  obtain ⟨hBb, hblk, hown, hit⟩ := h
  have far : ∀ (k : Nat) (o : Obj), k ≠ b → w.heap[k]? = some o → (w.setCell ⟨b, i, none⟩ u).heap[k]? = some o := fun k o hk h => (heap_setCell_other w ⟨b, i, none⟩ k _ hk).trans h
  refine ⟨⟨hBb, ?_, ?_, ?_⟩, (Below.refl _ _).setCell hBb _, far⟩
  · rw [← hset]; exact heap_setCell_same w b i _ _ u hblk
  · exact ownsRow_setCell_other hown (a := ⟨b, i, none⟩) (fun e => own_blk hown hblk (by decide) e.symm) _
  · intro k p x hp hx
    obtain ⟨h1, h2⟩ := hit k p x hp hx
    refine ⟨h1, far p _ ?_ h2⟩
    intro e
    subst e
    rw [hblk] at h2
    injection h2 with h2
    injection h2 with _ h2
    cases h2
/-- Item k: its place, its block. -/
theorem ListV.item {w : World} {B b : Nat} {a : Int} {s1 css : ByteArray} {sty v : Value} {ptrs : List Nat} {items : List (ByteArray × Nat)} {lv k : Nat} (h : ListV w B b a s1 css sty v ptrs items lv) (hk : k < items.length) :
    ∃ g cap p x, v = .slice (some ⟨g, 0, none⟩) items.length cap ∧ items[k]? = some x ∧ ptrs[k]? = some p ∧ w.cell? ⟨g, k, none⟩ = some (.pointer (some ⟨p, 0, none⟩)) ∧ w.cell? ⟨p, 0, none⟩ = some (.int .i64 x.2) ∧ w.cell? ⟨p, 1, none⟩ = some (.string x.1) ∧ p < w.heap.size := by
  obtain ⟨hBb, hblk, hown, hit⟩ := h
  have hlen : ptrs.length = items.length := by have := hown.1; simpa using this
  obtain ⟨g, cap, rfl⟩ : ∃ g cap, v = .slice (some ⟨g, 0, none⟩) items.length cap := by
    rcases hown.2 with ⟨_, h0⟩ | ⟨g, cap, cur, hv, _⟩
    · omega
    · exact ⟨g, cap, hv⟩
  have hp := List.getElem?_eq_getElem (l := ptrs) (i := k) (by omega)
  have hx := List.getElem?_eq_getElem (l := items) (i := k) hk
  obtain ⟨_, hpb⟩ := hit k _ _ hp hx
  exact ⟨g, cap, _, _, rfl, hx, hp, by rw [hown.cellAt k (by omega), List.getElem?_map, hp]; rfl, blk_cell hpb 0, blk_cell hpb 1, blk_lt hpb⟩

theorem ListV.cellp {w : World} {B b : Nat} {a : Int} {s1 css : ByteArray} {sty v : Value} {ptrs : List Nat} {items : List (ByteArray × Nat)} {lv k p : Nat} {x : ByteArray × Nat} (h : ListV w B b a s1 css sty v ptrs items lv) (hp : ptrs[k]? = some p) (hx : items[k]? = some x) :
    w.cell? ⟨p, 0, none⟩ = some (.int .i64 x.2) ∧ w.cell? ⟨p, 1, none⟩ = some (.string x.1) := by
  obtain ⟨_, hpb⟩ := h.2.2.2 k p x hp hx
  exact ⟨blk_cell hpb 0, blk_cell hpb 1⟩

/-- What is known of a list while it is made ready. -/
structure Ready (w0 wx : World) (B b q : Nat) (st : StyleV) (s1 css : ByteArray) (v : Value) (ptrs : List Nat) (items : List (ByteArray × Nat)) (lv a : Nat) : Prop where
  list : ListV wx B b a s1 css (.pointer (some ⟨q, 0, none⟩)) v ptrs items lv
  sty : StyleAt wx q st
  kept : Below B w0 wx
section
variable {w0 wx wy : World} {B b q : Nat} {st : StyleV} {s1 css : ByteArray} {v : Value} {ptrs : List Nat} {items : List (ByteArray × Nat)} {lv a : Nat}
theorem Ready.drew (h : Ready w0 wx B b q st s1 css v ptrs items lv a) : Ready w0 wx.drew B b q st s1 css v ptrs items lv a := ⟨h.list, h.sty, h.kept.drew⟩
theorem Ready.below (hB : B ≤ w0.heap.size) (h : Ready w0 wx B b q st s1 css v ptrs items lv a) (hb : Below wx.heap.size wx wy) : Ready w0 wy B b q st s1 css v ptrs items lv a :=
  ⟨h.list.below hb, h.sty.below hb, h.kept.trans (hb.mono (by have := h.kept.size; omega))⟩
theorem Ready.put (h : Ready w0 wx B b q st s1 css v ptrs items lv a) (i : Nat) (u : Value) {a' : Nat} {s1' css' : ByteArray}
    (hset : (#[.int .i64 a, .string s1, .string css, v, .int .i64 lv, .pointer (some ⟨q, 0, none⟩)] : Array Value).setIfInBounds i u = #[.int .i64 a', .string s1', .string css', v, .int .i64 lv, .pointer (some ⟨q, 0, none⟩)]) :
    Ready w0 (wx.setCell ⟨b, i, none⟩ u) B b q st s1' css' v ptrs items lv a' := by
  have hp := h.list.put i u hset
  exact ⟨hp.1, hp.2.2 q _ (style_ne h.list.at_ h.sty) h.sty, h.kept.trans hp.2.1⟩
theorem Ready.c (h : Ready w0 wx B b q st s1 css v ptrs items lv a) (i : Nat) : wx.cell? ⟨b, i, none⟩ = (#[.int .i64 a, .string s1, .string css, v, .int .i64 lv, .pointer (some ⟨q, 0, none⟩)] : Array Value)[i]? := blk_cell h.list.2.1 i
theorem Ready.f (h : Ready w0 wx B b q st s1 css v ptrs items lv a) (i : Nat) : wx.frozen? ⟨b, i, none⟩ = false := blk_frozen h.list.2.1 i
theorem Ready.s (h : Ready w0 wx B b q st s1 css v ptrs items lv a) (i : Nat) : wx.cell? ⟨q, i, none⟩ = st.cells[i]? := blk_cell h.sty i
theorem Ready.add (h : Ready w0 wx B b q st s1 css v ptrs items lv a) (r : Nat) : Ready w0 (wx.setCell ⟨b, 0, none⟩ (.int .i64 ((a : Int) + r))) B b q st s1 css v ptrs items lv (a + r) :=
  h.put 0 _ (by show (#[.int .i64 ((a : Int) + r), .string s1, .string css, v, .int .i64 lv, .pointer (some ⟨q, 0, none⟩)] : Array Value) = _; rfl)
end

theorem rcount_at (s : ByteArray) (r : Nat) (w : World) (hr : Lib.runeCount s = r) (hs : s.size ≤ 1099511627776) :
    Calls Tryz.prog 96 #[.string s] w fun e w' => e = .returned (.int .i64 r) ∧ Below w.heap.size w w' := by subst hr; exact rcount_any s w hs

/-- Sizes of a style, of items. -/
def smallStyle (st : StyleV) : Prop := st.vert.size ≤ 1000 ∧ st.pfx.size ≤ 1000 ∧ st.newline.size ≤ 1000
def smallItems (items : List (ByteArray × Nat)) : Prop := items.length ≤ 2000 ∧ ∀ x ∈ items, x.1.size ≤ 1000000 ∧ x.2 ≤ 2000
end Go.Proofs.YtdkpacgbniclhaaGreatDoor
