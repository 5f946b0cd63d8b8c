/- Walks of the list's own small functions: what they make of the list. Condition: the texts hold no tabulator and no return, sizes below the bounds that are named. -/
import Derived.Test.YtdkpacgbniclhaaGreatDoorPlayed
import Derived.Test.YtdkpacgbniclhaaGreatDoorSearch
import Derived.Test.YtdkpacgbniclhaaGreatDoorLSearch
import Derived.Deep.RegionLaw
import Derived.Deep.AppendLies
import Derived.Deep.RegionWith
import Derived.Lib.OthersKept
import Derived.Test.YtdkpacgbniclhaaGreatDoorOpen
namespace Go.Proofs.YtdkpacgbniclhaaGreatDoor
open Go.RowKit

theorem replL_nohead {x : UInt8} {p : List UInt8} (n : List UInt8) : ∀ a : List UInt8, x ∉ a → replL (x :: p) n a = a
  | [], _ => replL_nil _ _
  | y :: a, h => by
    have hne : x ≠ y := by intro e; apply h; simp [e]
    rw [replL_miss _ (by simp [List.isPrefixOf, hne]), replL_nohead n a (by intro e; apply h; simp [e])]
theorem zfind_none (x : UInt8) (s : ByteArray) (h : x ∉ bl s) (k : Nat) : zfind s ⟨#[x]⟩ k = -1 := by
  by_cases hk : k + (ByteArray.mk #[x]).size ≤ s.size
  · have he : eqAt s ⟨#[x]⟩ k = false := by
      rw [eqAt_iff hk]
      have h1 : (ByteArray.mk #[x]).size = 1 := rfl
      rw [drop_cons (l := bl s) (k := k) (by rw [bl_size]; omega)]
      have hne : x ≠ (bl s)[k]'(by rw [bl_size]; omega) := by intro e; apply h; rw [e]; exact List.getElem_mem _
      have hb : (x == (bl s)[k]'(by rw [bl_size]; omega)) = false := beq_eq_false_iff_ne.2 hne
      rw [show bl (ByteArray.mk #[x]) = [x] from rfl, List.isPrefixOf, hb]; rfl
    rw [zfind_next hk he]
    exact zfind_none x s h (k + 1)
  · exact zfind_end hk
termination_by s.size + 1 - k
decreasing_by have h1 : (ByteArray.mk #[x]).size = 1 := rfl; omega

/-- A text that a list takes as it is. -/
def plainT (t : ByteArray) : Prop := (9 : UInt8) ∉ bl t ∧ (13 : UInt8) ∉ bl t ∧ t.size ≤ 1099511627776

/-- 'x.(T)' where what x holds is a T. -/
theorem run_assert_same {P : Program} (t xT : TypeId) (v : Value) (w : World) (h : P.underlying t = some .string) : (Instr.typeAssert (.iface t v) xT t true).run P w = .ok (.tuple #[v, .bool true]) w := by
  simp [Instr.typeAssert, run_underlying h, go_sem, Result.andThen]

set_option maxRecDepth 100000 in
set_option maxHeartbeats 1000000 in
theorem zzText_any (t : ByteArray) (w : World) : Calls Tryz.prog 120 #[.iface 9 (.string t)] w fun e w' => e = .returned (.string t) ∧ w = w' := by
  have ht := run_assert_same 9 20 (.string t) w Tryz.underlying9
  go_enter Tryz.func120, Tryz.ntmps120
  go_wp2
  go_ret
  exact ⟨rfl, rfl⟩

set_option maxRecDepth 100000 in
set_option maxHeartbeats 1000000 in
theorem crlf_any (t : ByteArray) (w : World) (h : plainT t) : Calls Tryz.prog 121 #[.string t] w fun e w' => e = .returned (.string t) ∧ Below w.heap.size w w' := by
  have hr := replL_nohead (p := [10]) [10] _ h.2.1
  have HR := Lib.hid (show (⟨(replL (bl ⟨#[13, 10]⟩) (bl ⟨#[10]⟩) (bl t)).toArray⟩ : ByteArray) = t by apply bl_ext; rw [bl_mk]; exact hr)
  have hlen : (replL (bl ⟨#[13, 10]⟩) (bl ⟨#[10]⟩) (bl t)).length ≤ 140737488355328 := by
    have e : replL (bl ⟨#[13, 10]⟩) (bl ⟨#[10]⟩) (bl t) = bl t := hr
    rw [e, bl_size]; have := h.2.2; omega
  have HZ := Lib.hid (zfind_none 13 t h.2.1 0)
  have hs := h.2.2
  have h10 : Hid (bl ⟨#[13, 10]⟩ = [13, 10]) := Lib.hid rfl
  clear hr h h10
  go_enter Tryz.func121, Tryz.ntmps121
  go_wp2_with fail
  refine (replace_any t ⟨#[13, 10]⟩ ⟨#[10]⟩ _ (by omega) (by decide) (by decide) hlen).mono ?_
  rintro e w1 ⟨rfl, hb1⟩
  rw [HR.out]
  go_wp2_with fail
  refine (contains_any t ⟨#[13]⟩ _ (by omega) (by decide)).mono ?_
  rintro e w2 ⟨rfl, rfl⟩
  rw [HZ.out]
  go_wp2
  go_ret
  exact ⟨rfl, hb1⟩

/-- The list in block b: its fields; its items, each in a block of its own. -/
def ListAt (w : World) (B b : Nat) (a : Int) (s1 css : ByteArray) (sty : Value) (items : List (ByteArray × Nat)) (lv : Nat) : Prop :=
  B ≤ b ∧ ∃ (v : Value) (ptrs : List Nat), w.heap[b]? = some (.cells #[.int .i64 a, .string s1, .string css, v, .int .i64 lv, sty] 100 (0, 0)) ∧
    w.ownsRow B 108 1 v items.length (ptrs.map fun p => .pointer (some ⟨p, 0, none⟩)) ∧
    ∀ (k p : Nat) (x : ByteArray × Nat), ptrs[k]? = some p → items[k]? = some x → B ≤ p ∧ w.heap[p]? = some (.cells #[.int .i64 x.2, .string x.1] 110 (0, 0))

set_option maxRecDepth 100000 in
set_option maxHeartbeats 2000000 in
theorem analyze_any (b : Nat) (t : ByteArray) (lv : Nat) (w : World) (h : plainT t) (hl : w.cell? ⟨b, 4, none⟩ = some (.int .i64 lv)) :
    Calls Tryz.prog 93 #[.pointer (some ⟨b, 0, none⟩), .iface 9 (.string t)] w fun e w' => ∃ p, e = .returned (.pointer (some ⟨p, 0, none⟩)) ∧ w.heap.size ≤ p ∧ w'.heap[p]? = some (.cells #[.int .i64 lv, .string t] 110 (0, 0)) ∧ Below w.heap.size w w' := by
  have hlt := block_lt hl
  have HR := Lib.hid (show (⟨(replL (bl ⟨#[9]⟩) (bl ⟨#[32, 32, 32, 32]⟩) (bl t)).toArray⟩ : ByteArray) = t by apply bl_ext; rw [bl_mk]; exact replL_nohead (p := []) [32, 32, 32, 32] _ h.1)
  have hlen : (replL (bl ⟨#[9]⟩) (bl ⟨#[32, 32, 32, 32]⟩) (bl t)).length ≤ 140737488355328 := by
    have e : replL (bl ⟨#[9]⟩) (bl ⟨#[32, 32, 32, 32]⟩) (bl t) = bl t := replL_nohead (p := []) [32, 32, 32, 32] _ h.1
    rw [e, bl_size]; have := h.2.2; omega
  have hs := h.2.2
  have HPT := Lib.hid h
  clear h
  go_enter Tryz.func93, Tryz.ntmps93
  go_wp2_with fail
  refine (zzText_any t _).mono ?_
  rintro e w0 ⟨rfl, rfl⟩
  go_wp2_with fail
  refine (lreplace_any t ⟨#[9]⟩ ⟨#[32, 32, 32, 32]⟩ _ (by omega) (by decide) (by decide) hlen).mono ?_
  rintro e w1 ⟨rfl, hb1⟩
  rw [HR.out]
  go_wp2_with fail
  refine (crlf_any t _ HPT.out).mono ?_
  rintro e w2 ⟨rfl, hb2⟩
  have hb12 := hb1.trans (hb2.mono hb1.size)
  have hl2 := (hb12.cell (p := ⟨b, 4, none⟩) hlt).trans hl
  have hsz := hb12.size
  clear hl hb1 hb2
  go_wp2
  go_ret
  refine ⟨_, rfl, hsz, heap_alloc_new _ _, hb12.alloc hsz _⟩

theorem infoPtr : (Tryz.prog.info? 108).map (fun i => (i.zero, i.size, i.bytes)) = some (some (.pointer none), 1, 8) := by kernel_rfl
theorem blk_cell {w : World} {b : Nat} {cs : Array Value} {t : TypeId} (h : w.heap[b]? = some (.cells cs t (0, 0))) (i : Nat) : w.cell? ⟨b, i, none⟩ = cs[i]? := cell_of_row w b i cs t (0, 0) h
theorem blk_frozen {w : World} {b : Nat} {cs : Array Value} {t : TypeId} (h : w.heap[b]? = some (.cells cs t (0, 0))) (i : Nat) : w.frozen? ⟨b, i, none⟩ = false := frozen_of_row w b i cs t h
theorem blk_lt {w : World} {b : Nat} {o : Obj} (h : w.heap[b]? = some o) : b < w.heap.size := (Array.getElem?_eq_some_iff.1 h).1
/-- A row of another element type is another block. -/
theorem own_blk {w : World} {B e size n b : Nat} {v : Value} {xs : List Value} {cs : Array Value} {t : TypeId} (h : w.ownsRow B e size v n xs) (hb : w.heap[b]? = some (.cells cs t (0, 0))) (hne : e ≠ t) : some b ≠ v.ownBlock := by
  rcases h.2 with ⟨rfl, _⟩ | ⟨g, cap, cur, rfl, _, hh, _⟩
  · simp [Value.ownBlock]
  · intro he
    have : b = g := by simpa [Value.ownBlock] using he
    subst this
    rw [hb] at hh
    injection hh with hh
    injection hh with _ ht
    exact hne ht.symm

theorem app_blk {w w1 w3 : World} {o x : Obj} {b : Nat} {row : Option Nat} (hblk : w.heap[b]? = some x) (hb1 : Below w.heap.size w w1) (hgrow : (w1.alloc o).grownBy w3 row) (hne : some b ≠ row) : w3.heap[b]? = some x := by
  have h1 : w1.heap[b]? = some x := (hb1.block b (blk_lt hblk)).trans hblk
  have h2 : (w1.alloc o).heap[b]? = some x := (Below.heap_alloc w1 o b (blk_lt h1)).trans h1
  exact (hgrow.block b (blk_lt h2) hne).trans h2

theorem own_kind {w : World} {B e size n k : Nat} {v : Value} {xs : List Value} {o : Obj} (h : w.ownsRow B e size v n xs) (hk : w.heap[k]? = some o) (ho : ∀ c fz, o ≠ .cells c e fz) : some k ≠ v.ownBlock := by
  rcases h.2 with ⟨rfl, _⟩ | ⟨g, cap, cur, rfl, _, hh, _⟩
  · simp [Value.ownBlock]
  · intro he
    have : k = g := by simpa [Value.ownBlock] using he
    subst this
    rw [hk] at hh
    injection hh with hh
    exact ho _ _ hh

theorem item_pushed {B b : Nat} {a : Int} {s1 css : ByteArray} {sty v : Value} {items : List (ByteArray × Nat)} {ptrs : List Nat} {lv p g cap : Nat} {t : ByteArray} {w w1 w3 : World} (hB : B ≤ w.heap.size) (hBb : B ≤ b)
    (hblk : w.heap[b]? = some (.cells #[.int .i64 a, .string s1, .string css, v, .int .i64 lv, sty] 100 (0, 0)))
    (hown : w.ownsRow B 108 1 v items.length (ptrs.map fun p => .pointer (some ⟨p, 0, none⟩)))
    (hit : ∀ (k p : Nat) (x : ByteArray × Nat), ptrs[k]? = some p → items[k]? = some x → B ≤ p ∧ w.heap[p]? = some (.cells #[.int .i64 x.2, .string x.1] 110 (0, 0)))
    (hb1 : Below w.heap.size w w1) (hpge : w.heap.size ≤ p) (hpb : w1.heap[p]? = some (.cells #[.int .i64 lv, .string t] 110 (0, 0)))
    (hgrow : (w1.alloc (.cells #[.pointer (some ⟨p, 0, none⟩)] 108)).grownBy w3 v.ownBlock)
    (hown3 : w3.ownsRow B 108 1 (.slice (some ⟨g, 0, none⟩) (items.length + 1) cap) (items.length + 1) ((ptrs.map fun p => .pointer (some ⟨p, 0, none⟩)) ++ [.pointer (some ⟨p, 0, none⟩)])) :
    ListAt (w3.setCell ⟨b, 3, none⟩ (.slice (some ⟨g, 0, none⟩) (items.length + 1) cap)) B b a s1 css sty (items ++ [(t, lv)]) lv ∧ Below B w (w3.setCell ⟨b, 3, none⟩ (.slice (some ⟨g, 0, none⟩) (items.length + 1) cap)) ∧ Lib.OthersKept 108 (some b) w (w3.setCell ⟨b, 3, none⟩ (.slice (some ⟨g, 0, none⟩) (items.length + 1) cap)) := by
  have hne := own_blk hown hblk (by decide)
  have hbk3 := app_blk hblk hb1 hgrow hne
  have hlen : ptrs.length = items.length := by have := hown.1; simpa using this
  have far : ∀ (k : Nat) (o : Obj), k ≠ b → w3.heap[k]? = some o → (w3.setCell ⟨b, 3, none⟩ (.slice (some ⟨g, 0, none⟩) (items.length + 1) cap)).heap[k]? = some o := fun k o hk h => (heap_setCell_other w3 ⟨b, 3, none⟩ k _ hk).trans h
  have hpne : p ≠ b := by have := blk_lt hblk; omega
  have hp3 : w3.heap[p]? = some (.cells #[.int .i64 lv, .string t] 110 (0, 0)) := by
    have h2 := (Below.heap_alloc w1 (.cells #[.pointer (some ⟨p, 0, none⟩)] 108) p (blk_lt hpb)).trans hpb
    refine (hgrow.block p (blk_lt h2) ?_).trans h2
    intro e
    have := (World.ownsRow.lt hown _ e.symm).2
    omega
  refine ⟨⟨hBb, .slice (some ⟨g, 0, none⟩) (items.length + 1) cap, ptrs ++ [p], ?_, ?_, ?_⟩, ?_, ?_⟩
  · have := heap_setCell_same w3 b 3 _ _ (.slice (some ⟨g, 0, none⟩) (items.length + 1) cap) hbk3
    exact this
  · have h3 := ownsRow_setCell_other hown3 (a := ⟨b, 3, none⟩) (fun e => own_blk hown3 hbk3 (by decide) e.symm) (.slice (some ⟨g, 0, none⟩) (items.length + 1) cap)
    rw [List.map_append, List.length_append]
    exact h3
  · intro k q x hq hx
    by_cases hk : k < items.length
    · rw [List.getElem?_append_left (by omega)] at hq
      rw [List.getElem?_append_left hk] at hx
      obtain ⟨h1, h2⟩ := hit k q x hq hx
      refine ⟨h1, far q _ ?_ (app_blk h2 hb1 hgrow (own_blk hown h2 (by decide)))⟩
      intro e
      subst e
      rw [hblk] at h2
      injection h2 with h2
      injection h2 with _ h2
      cases h2
    · have hk2 : k = items.length := by
        have := (List.getElem?_eq_some_iff.1 hx).1
        simp at this; omega
      subst hk2
      rw [List.getElem?_append_right (by omega), hlen, Nat.sub_self] at hq
      rw [List.getElem?_append_right (by omega), Nat.sub_self] at hx
      simp at hq hx
      subst hq hx
      exact ⟨by omega, far p _ hpne hp3⟩
  · have h1 := (hb1.mono hB).alloc (o := .cells #[.pointer (some ⟨p, 0, none⟩)] 108) (by have := hb1.size; omega)
    have h2 := h1.grown hgrow (by have := hb1.size; simp; omega) (fun k hk => (World.ownsRow.lt hown _ hk).1)
    exact h2.setCell (p := ⟨b, 3, none⟩) hBb _
  · intro k o hk hkb ho
    exact far k o (fun e => hkb (by rw [e])) (app_blk hk hb1 hgrow (own_kind hown hk ho))

set_option maxRecDepth 100000 in
set_option maxHeartbeats 4000000 in
theorem appendItem_any (B b : Nat) (a : Int) (s1 css : ByteArray) (sty : Value) (items : List (ByteArray × Nat)) (lv : Nat) (t : ByteArray) (w : World) (h : ListAt w B b a s1 css sty items lv) (hB : B ≤ w.heap.size) (hn : items.length ≤ 1099511627776) (ht : plainT t) :
    Calls Tryz.prog 67 #[.pointer (some ⟨b, 0, none⟩), .iface 9 (.string t)] w fun e w' => e = .returned (.tuple #[]) ∧ ListAt w' B b a s1 css sty (items ++ [(t, lv)]) lv ∧ Below B w w' ∧ Lib.OthersKept 108 (some b) w w' := by
  obtain ⟨i0, hi, hz0, hz1, hz2⟩ := info_parts infoPtr
  obtain ⟨hBb, v, ptrs, hblk, hown, hit⟩ := h
  have hlt := blk_lt hblk
  have hc3 : w.cell? ⟨b, 3, none⟩ = some v := blk_cell hblk 3
  have hc4 : w.cell? ⟨b, 4, none⟩ = some (.int .i64 lv) := blk_cell hblk 4
  obtain ⟨n, hnn⟩ : ∃ n, n = items.length := ⟨_, rfl⟩
  rw [← hnn] at hown hn
  have HN := Lib.hid hnn
  have HIT := Lib.hid hit
  have HBLK := Lib.hid hblk
  have HNE := Lib.hid (own_blk hown hblk (by decide))
  clear hnn hit hblk
  go_enter Tryz.func67, Tryz.ntmps67
  go_wp2_with fail
  go_region_law (first
    | ((try go_simp); go_at_call 93; go_loud (refine (analyze_any b t lv w.drew ht hc4).mono ?_); rintro e w1 ⟨p, rfl, hpge, hpb, hb1⟩; have hc31 := (hb1.cell (p := ⟨b, 3, none⟩) hlt).trans hc3; have hc32 := (World.cell?_alloc_lt w1 (.cells #[.pointer (some ⟨p, 0, none⟩)] 108) ⟨b, 3, none⟩ (block_lt hc31)).trans hc31)
    | ((go_loud (refine step_append_lies _ (by rfl) (.tmp 8) (.tmp 12) 97 (by rfl) B 108 i0 (.pointer none) 1 8 Tryz.underlying97 hi hz0 hz1 hz2 rfl (by decide) v n _ (by rfl) ((own_below (World.ownsRow.drew hown) hb1 (Nat.le_refl _)).alloc _) ⟨w1.heap.size, 0, none⟩ 1 1 [.pointer (some ⟨p, 0, none⟩)] (by rfl) rfl (cell_one_new _ _ _) (by intro u hu; simp at hu; subst hu; rfl) (by decide) (by unfold maxLen; omega) (by omega) (by have := hb1.size; simp at this ⊢; omega) _ rfl ?_); intro g cap w3 hown3 hgrow hat hltg; have hbk3 := app_blk (w := w.drew) HBLK.out hb1 hgrow HNE.out; have hc33 := blk_cell hbk3 3; have hf33 := blk_frozen hbk3 3)))
  all_goals
    go_end0
    rw [HN.out] at hown hown3
    rw [HN.out]
    exact ⟨rfl, item_pushed (w := w) hB hBb HBLK.out hown HIT.out ⟨hb1.os, hb1.tape, hb1.output, hb1.size, hb1.block⟩ hpge hpb hgrow hown3⟩
end Go.Proofs.YtdkpacgbniclhaaGreatDoor
