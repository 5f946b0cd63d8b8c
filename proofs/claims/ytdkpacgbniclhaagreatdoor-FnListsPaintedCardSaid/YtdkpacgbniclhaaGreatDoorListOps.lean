/- Walks of the list's own functions (AppendItems, Indent, UnIndent, UnIndentAll, Reset, Length): what they make of the list. Condition: sizes below the bounds that are named. -/
import Derived.Test.YtdkpacgbniclhaaGreatDoorListObj
import Derived.BigQuiet
namespace Go.Proofs.YtdkpacgbniclhaaGreatDoor
open Go.RowKit

/-- A row of another element type stays while a list grows. -/
theorem own_others {w w' : World} {B e e' size n b : Nat} {v : Value} {xs : List Value} (h : w.ownsRow B e size v n xs) (ho : Lib.OthersKept e' (some b) w w') (hne : e ≠ e') (hb : some b ≠ v.ownBlock) : w'.ownsRow B e size v n xs := by
  obtain ⟨h1, h2⟩ := h
  refine ⟨h1, ?_⟩
  rcases h2 with h2 | ⟨g, cap, cur, rfl, hg, hh, r⟩
  · exact Or.inl h2
  · refine Or.inr ⟨g, cap, cur, rfl, hg, ho g _ hh ?_ ?_, r⟩
    · intro e2; exact hb (by simpa [Value.ownBlock] using e2.symm)
    · intro c fz e2; injection e2 with _ e2; exact hne e2
theorem ListAt.blk {w : World} {B b : Nat} {a : Int} {s1 css : ByteArray} {sty : Value} {items : List (ByteArray × Nat)} {lv : Nat} (h : ListAt w B b a s1 css sty items lv) : ∃ cs, w.heap[b]? = some (.cells cs 100 (0, 0)) := by
  obtain ⟨_, v, ptrs, h1, _⟩ := h; exact ⟨_, h1⟩

def ifaces (ts : List ByteArray) : List Value := ts.map fun t => .iface 9 (.string t)

set_option maxRecDepth 100000 in
set_option maxHeartbeats 2000000 in
theorem appendItems_any (B b : Nat) (a : Int) (s1 css : ByteArray) (sty : Value) (items : List (ByteArray × Nat)) (lv : Nat) (ts : List ByteArray) (v : Value) (w : World) (h : ListAt w B b a s1 css sty items lv) (hB : B ≤ w.heap.size) (hn : items.length + ts.length ≤ 1099511627776) (ht : ∀ t ∈ ts, plainT t) (hv : w.ownsRow B 20 1 v ts.length (ifaces ts)) :
    Calls Tryz.prog 68 #[.pointer (some ⟨b, 0, none⟩), v] w fun e w' => e = .returned (.tuple #[]) ∧ ListAt w' B b a s1 css sty (items ++ ts.map fun t => (t, lv)) lv ∧ Below B w w' ∧ Lib.OthersKept 108 (some b) w w' := by
  obtain ⟨cs, hcs⟩ := h.blk
  have hne := Lib.hid (own_blk hv hcs (by decide))
  obtain ⟨A, c, hvv, _⟩ := own_rd hv
  obtain ⟨n, hnn⟩ : ∃ n, n = ts.length := ⟨_, rfl⟩
  rw [← hnn] at hvv hn
  have HN := Lib.hid hnn
  have HT := Lib.hid ht
  have HV := Lib.hid hv
  clear hnn ht hv hcs
  subst hvv
  go_enter Tryz.func68, Tryz.ntmps68
  go_wp2
  go_loopw [8] (fun i wr => ∃ k : Nat, k ≤ n ∧ i = .int .i64 k ∧ ListAt wr B b a s1 css sty (items ++ (ts.take k).map fun t => (t, lv)) lv ∧ Below B w wr ∧ Lib.OthersKept 108 (some b) w wr) (fun i _ => n - (intOf i).toNat)
  case atStart => exact ⟨0, Nat.zero_le _, rfl, by simpa using h, Below.refl _ _, Lib.OthersKept.refl _ _ _⟩
  case round =>
    obtain ⟨k, hk, rfl, hla, hbw, hok⟩ := hrel
    by_cases hlt : k < n
    · have hov := own_others HV.out hok (by decide) hne.out
      obtain ⟨A', c', hv', hrd⟩ := own_rd hov
      rw [← HN.out] at hv' hrd
      injection hv' with h1 h2 h3
      subst h1 h3
      obtain ⟨ad, u, rfl, _, hu, hc⟩ := hrd.at1 hlt
      unfold ifaces at hu
      rw [List.getElem?_map] at hu
      obtain ⟨t, ht, rfl⟩ := Option.map_eq_some_iff.1 hu
      have HTT := Lib.hid ht
      have hpl := HT.out t (List.mem_of_getElem? ht)
      have hszB : B ≤ wr.heap.size := by have := hbw.size; omega
      have hlen : (items ++ (ts.take k).map fun t => (t, lv)).length ≤ 1099511627776 := by simp; omega
      have HPL := Lib.hid hpl
      clear hu ht hpl hrd hov h2
      go_wp2_with fail
      refine (appendItem_any B b a s1 css sty _ lv t _ hla hszB hlen HPL.out).mono ?_
      rintro e w2 ⟨rfl, hla2, hb2, hok2⟩
      have hbw2 := hbw.trans hb2
      have hok3 := hok.trans hok2
      clear hla hbw hok hb2 hok2 h
      go_wp2
      go_roundw
      case rel =>
        refine ⟨k + 1, by omega, by go_num, ?_, hbw2, hok3⟩
        rw [take_step HTT.out, List.map_append, ← List.append_assoc]
        exact hla2
      case measure => simp [intOf]; omega
    · have hkn : k = n := by omega
      subst hkn
      rw [List.take_of_length_le (by rw [← HN.out]; exact Nat.le_refl _)] at hla
      go_wp2
      go_end0
      exact ⟨rfl, hla, hbw, hok⟩

/-- The level is set. -/
theorem level_set {w : World} {B b : Nat} {a : Int} {s1 css : ByteArray} {sty : Value} {items : List (ByteArray × Nat)} {lv : Nat} (h : ListAt w B b a s1 css sty items lv) (lv2 : Nat) :
    ListAt (w.setCell ⟨b, 4, none⟩ (.int .i64 lv2)) B b a s1 css sty items lv2 ∧ Below B w (w.setCell ⟨b, 4, none⟩ (.int .i64 lv2)) ∧ Lib.OthersKept 108 (some b) w (w.setCell ⟨b, 4, none⟩ (.int .i64 lv2)) := by
  obtain ⟨hBb, v, ptrs, hblk, hown, hit⟩ := h
  have far : ∀ (k : Nat) (o : Obj), k ≠ b → w.heap[k]? = some o → (w.setCell ⟨b, 4, none⟩ (.int .i64 lv2)).heap[k]? = some o := fun k o hk h => (heap_setCell_other w ⟨b, 4, none⟩ k _ hk).trans h
  refine ⟨⟨hBb, v, ptrs, ?_, ?_, ?_⟩, (Below.refl _ _).setCell hBb _, fun k o hk hkb _ => far k o (fun e => hkb (by rw [e])) hk⟩
  · exact heap_setCell_same w b 4 _ _ (.int .i64 lv2) hblk
  · exact ownsRow_setCell_other hown (a := ⟨b, 4, none⟩) (fun e => own_blk hown hblk (by decide) e.symm) _
  · intro k p x hp hx
    obtain ⟨h1, h2⟩ := hit k p x hp hx
    refine ⟨h1, far p _ ?_ h2⟩
    intro e
    subst e
    rw [hblk] at h2
    injection h2 with h2
    injection h2 with _ h2
    cases h2

section
variable (B b : Nat) (a : Int) (s1 css : ByteArray) (sty : Value) (items : List (ByteArray × Nat)) (lv : Nat) (w : World)

set_option maxRecDepth 100000 in
set_option maxHeartbeats 2000000 in
theorem unIndentAll_any (h : ListAt w B b a s1 css sty items lv) :
    Calls Tryz.prog 71 #[.pointer (some ⟨b, 0, none⟩)] w fun e w' => e = .returned (.tuple #[]) ∧ ListAt w' B b a s1 css sty items 0 ∧ Below B w w' ∧ Lib.OthersKept 108 (some b) w w' := by
  have hset := level_set h 0
  obtain ⟨hBb, v, ptrs, hblk, hown, hit⟩ := h
  have hc4 : w.cell? ⟨b, 4, none⟩ = some (.int .i64 lv) := blk_cell hblk 4
  have hf4 := blk_frozen hblk 4
  clear hblk hown hit
  go_enter Tryz.func71, Tryz.ntmps71
  go_wp2
  go_end0
  exact ⟨rfl, hset⟩

set_option maxRecDepth 100000 in
set_option maxHeartbeats 2000000 in
theorem unIndent_any (hlv : lv ≤ 1099511627776) (h : ListAt w B b a s1 css sty items lv) :
    Calls Tryz.prog 70 #[.pointer (some ⟨b, 0, none⟩)] w fun e w' => e = .returned (.tuple #[]) ∧ ListAt w' B b a s1 css sty items (lv - 1) ∧ Below B w w' ∧ Lib.OthersKept 108 (some b) w w' := by
  by_cases hz : lv = 0
  · subst hz
    have h' := h
    obtain ⟨hBb, v, ptrs, hblk, hown, hit⟩ := h
    have hc4 : w.cell? ⟨b, 4, none⟩ = some (.int .i64 0) := blk_cell hblk 4
    clear hblk hown hit
    go_enter Tryz.func70, Tryz.ntmps70
    go_wp2
    go_end0
    exact ⟨rfl, h', Below.refl _ _, Lib.OthersKept.refl _ _ _⟩
  · obtain ⟨m, rfl⟩ : ∃ m, lv = m + 1 := ⟨lv - 1, by omega⟩
    have hset := level_set h m
    obtain ⟨hBb, v, ptrs, hblk, hown, hit⟩ := h
    have hc4 : w.cell? ⟨b, 4, none⟩ = some (.int .i64 ((m + 1 : Nat) : Int)) := blk_cell hblk 4
    have hf4 := blk_frozen hblk 4
    clear hblk hown hit hz
    go_enter Tryz.func70, Tryz.ntmps70
    go_wp2
    go_end0
    exact ⟨rfl, by simpa using hset⟩

/-- What Indent makes of the level. -/
def indentL (items : List (ByteArray × Nat)) (lv : Nat) : Nat := if 0 < items.length ∧ lv ≤ lastLevel items then lv + 1 else lv

set_option maxRecDepth 100000 in
set_option maxHeartbeats 2000000 in
theorem indent_any (hlv : lv ≤ 1099511627776) (hn : items.length ≤ 1099511627776) (h : ListAt w B b a s1 css sty items lv) :
    Calls Tryz.prog 69 #[.pointer (some ⟨b, 0, none⟩)] w fun e w' => e = .returned (.tuple #[]) ∧ ListAt w' B b a s1 css sty items (indentL items lv) ∧ Below B w w' ∧ Lib.OthersKept 108 (some b) w w' := by
  have h' := h
  have hset : ∀ k : Nat, _ := fun k => level_set (w := w.drewN k) (B := B) (b := b) (a := a) (s1 := s1) (css := css) (sty := sty) (items := items) (lv := lv) h (lv + 1)
  obtain ⟨hBb, v, ptrs, hblk, hown, hit⟩ := h
  have hlen : ptrs.length = items.length := by have := hown.1; simpa using this
  by_cases hz : items.length = 0
  · obtain ⟨A, c, rfl, _⟩ := own_rd hown
    rw [hz] at hblk
    have HI := Lib.hid (show indentL items lv = lv by unfold indentL; rw [if_neg (by omega)])
    have hc3 : w.cell? ⟨b, 3, none⟩ = some (.slice A (0 : Nat) c) := blk_cell hblk 3
    clear hblk hown hit hset hz hlen
    go_enter Tryz.func69, Tryz.ntmps69
    go_wp2
    go_end0
    exact ⟨rfl, by rw [HI.out]; exact h', Below.refl _ _, Lib.OthersKept.refl _ _ _⟩
  · obtain ⟨m, hm⟩ : ∃ m, items.length = m + 1 := ⟨items.length - 1, by omega⟩
    obtain ⟨g, cap, rfl⟩ : ∃ g cap, v = .slice (some ⟨g, 0, none⟩) items.length cap := by
      rcases hown.2 with ⟨_, h0⟩ | ⟨g, cap, cur, hv, _⟩
      · omega
      · exact ⟨g, cap, hv⟩
    obtain ⟨p, hp⟩ : ∃ p, ptrs[m]? = some p := ⟨_, List.getElem?_eq_getElem (by omega)⟩
    obtain ⟨x, hx⟩ : ∃ x, items[m]? = some x := ⟨_, List.getElem?_eq_getElem (by omega)⟩
    have hll : lastLevel items = x.2 := by
      unfold lastLevel
      rw [List.getLast?_eq_getElem?, hm, Nat.add_sub_cancel, hx]
    obtain ⟨_, hpb⟩ := hit m p x hp hx
    have hcg : w.cell? ⟨g, m, none⟩ = some (.pointer (some ⟨p, 0, none⟩)) := by
      rw [hown.cellAt m (by omega), List.getElem?_map, hp]; rfl
    have hcp : w.cell? ⟨p, 0, none⟩ = some (.int .i64 x.2) := blk_cell hpb 0
    have hc4 : w.cell? ⟨b, 4, none⟩ = some (.int .i64 lv) := blk_cell hblk 4
    have hc3 : w.cell? ⟨b, 3, none⟩ = some (.slice (some ⟨g, 0, none⟩) ((m + 1 : Nat)) cap) := by rw [← hm]; exact blk_cell hblk 3
    have hf4 := blk_frozen hblk 4
    have HLL := Lib.hid hll
    have HM := Lib.hid hm
    clear hblk hown hit hlen hp hx hpb hz hll hm
    generalize x.2 = y at *
    have hwm : IntKind.i64.wrap (m : Int) = m := by rw [IntKind.wrap_i64]; have := HM.out; omega
    have hm1 : (m : Int) < (m : Int) + 1 := by omega
    by_cases hle : lv ≤ y
    · have hd : decide ((y : Int) < lv) = false := by rw [decide_eq_false_iff_not]; omega
      have HI := Lib.hid (show indentL items lv = lv + 1 by unfold indentL; rw [HLL.out, if_pos ⟨by rw [HM.out]; omega, hle⟩])
      go_enter Tryz.func69, Tryz.ntmps69
      go_wp2
      go_quiet (fail)
      go_wp2
      go_end0
      have h3 := hset nq
      rw [HI.out]
      exact ⟨rfl, h3.1, below_of_drewN h3.2.1, h3.2.2⟩
    · have hlt : (y : Int) < (lv : Int) := by omega
      have HI := Lib.hid (show indentL items lv = lv by unfold indentL; rw [HLL.out, if_neg (fun h => hle h.2)])
      go_enter Tryz.func69, Tryz.ntmps69
      go_wp2
      go_quiet (fail)
      go_wp2
      go_end0
      rw [HI.out]
      exact ⟨rfl, h', below_drewN (Below.refl _ _) _, Lib.OthersKept.refl _ _ _⟩
end

set_option maxRecDepth 100000 in
set_option maxHeartbeats 2000000 in
theorem reset_any (B b : Nat) (a : Int) (s1 css : ByteArray) (sty : Value) (items : List (ByteArray × Nat)) (lv : Nat) (w : World) (hB : B ≤ w.heap.size) (h : ListAt w B b a s1 css sty items lv) :
    Calls Tryz.prog 72 #[.pointer (some ⟨b, 0, none⟩)] w fun e w' => e = .returned (.tuple #[]) ∧ ListAt w' B b 0 s1 css (.pointer none) [] 0 ∧ Below B w w' ∧ Lib.OthersKept 108 (some b) w w' := by
  obtain ⟨i0, hi, hz0, hz1, hz2⟩ := info_parts infoPtr
  obtain ⟨hBb, v, ptrs, hblk, hown, hit⟩ := h
  have hb0 := heap_setCell_same w b 0 _ _ (.int .i64 0) hblk
  have hB0 : Below B w (w.setCell ⟨b, 0, none⟩ (.int .i64 0)) := (Below.refl _ _).setCell hBb _
  have hc0 : w.cell? ⟨b, 0, none⟩ = some (.int .i64 a) := blk_cell hblk 0
  have hf0 := blk_frozen hblk 0
  have hlt := blk_lt hblk
  have HB0 := Lib.hid hb0
  have HBLK := Lib.hid hblk
  clear hown hit hb0 hblk
  go_enter Tryz.func72, Tryz.ntmps72
  go_wp2_with (at_make; go_loud (refine wpList_make_own _ rfl _ _ 97 rfl B 108 i0 (.pointer none) 1 Tryz.underlying97 hi hz0 hz1 .i64 .i64 0 0 rfl rfl rfl (by rw [hz2]; omega) (by unfold maxLen; omega) (by simp; omega) ?_))
  intro w2 hown2 hgrow
  have hb2 : w2.heap[b]? = _ := (hgrow.block b (by simp; omega) (by simp)).trans HB0.out
  have hB2 : Below B w w2 := hB0.grown hgrow (by simp; omega) (fun k hk => by cases hk)
  have hok2 : ∀ (k : Nat) (o : Obj), w.heap[k]? = some o → k ≠ b → w2.heap[k]? = some o := fun k o hk hkb => by
    have h1 := (heap_setCell_other w ⟨b, 0, none⟩ k (.int .i64 0) hkb).trans hk
    exact (hgrow.block k (blk_lt h1) (by simp)).trans h1
  have HOK2 := Lib.hid hok2
  have HB2 := Lib.hid hb2
  have hc3 := blk_cell hb2 3
  have hc4 := blk_cell hb2 4
  have hc5 := blk_cell hb2 5
  have hf3 := blk_frozen hb2 3
  have hf4 := blk_frozen hb2 4
  have hf5 := blk_frozen hb2 5
  simp only [Array.setIfInBounds] at hc3 hc4 hc5
  clear hgrow hok2 hb2 hB0 hc0 hf0
  go_wp2
  go_end0
  have hnb : ∀ u : Nat, (Value.slice (some ⟨w.heap.size, 0, none⟩) 0 u).ownBlock ≠ some b := by intro u; simp [Value.ownBlock]; omega
  refine ⟨rfl, ⟨hBb, .slice (some ⟨w.heap.size, 0, none⟩) 0 0, [], ?_, ?_, by intro k p x hp; simp at hp⟩, ?_, ?_⟩
  · exact heap_setCell_same _ b 5 _ _ (.pointer none) (heap_setCell_same _ b 4 _ _ (.int .i64 0) (heap_setCell_same w2 b 3 _ _ (.slice (some ⟨w.heap.size, 0, none⟩) 0 0) HB2.out))
  · exact ownsRow_setCell_other (ownsRow_setCell_other (ownsRow_setCell_other hown2 (a := ⟨b, 3, none⟩) (hnb 0) _) (a := ⟨b, 4, none⟩) (hnb 0) _) (a := ⟨b, 5, none⟩) (hnb 0) _
  · exact ((hB2.setCell (p := ⟨b, 3, none⟩) hBb _).setCell (p := ⟨b, 4, none⟩) hBb _).setCell (p := ⟨b, 5, none⟩) hBb _
  · intro k o hk hkb _
    have hne : k ≠ b := fun e => hkb (by rw [e])
    have h1 := (heap_setCell_other w2 ⟨b, 3, none⟩ k (.slice (some ⟨w.heap.size, 0, none⟩) 0 0) hne).trans (HOK2.out k o hk hne)
    have h2 := (heap_setCell_other _ ⟨b, 4, none⟩ k (.int .i64 0) hne).trans h1
    exact (heap_setCell_other _ ⟨b, 5, none⟩ k (.pointer none) hne).trans h2
end Go.Proofs.YtdkpacgbniclhaaGreatDoor
