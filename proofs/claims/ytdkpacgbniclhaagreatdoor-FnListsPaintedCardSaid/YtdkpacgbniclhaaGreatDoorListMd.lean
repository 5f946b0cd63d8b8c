/- Walks of RenderMarkdown and impl.ListMarkdown: what some steps look like in Markdown. Condition: sizes below the bounds that are named. -/
import Derived.Test.YtdkpacgbniclhaaGreatDoorListPlain
import Derived.Test.YtdkpacgbniclhaaGreatDoorDrawFar
import Derived.Deep.RegionHeld3
import Derived.Defers
import Derived.Recover
import Derived.Deep.RegionWith
namespace Go.Proofs.YtdkpacgbniclhaaGreatDoor
open Go.RowKit
set_option linter.unusedVariables false

/-- The style of Markdown. -/
def mdStyle : StyleV := ⟨0, ⟨#[42]⟩, ⟨#[42]⟩, ⟨#[42]⟩, ⟨#[42]⟩, ⟨#[32, 32]⟩, ⟨#[42]⟩, ⟨#[60, 98, 114, 47, 62]⟩, ⟨#[32, 32]⟩, ⟨#[83, 116, 121, 108, 101, 77, 97, 114, 107, 100, 111, 119, 110]⟩⟩
theorem md_small : styleSmall mdStyle := ⟨rfl, by decide, by decide, by decide, by decide, by decide, by decide, by decide, by decide⟩

set_option maxHeartbeats 2000000 in
theorem mdStyle_any (w : World) :
    Calls Tryz.prog 81 #[] w fun e w' => e = .returned (.agg mdStyle.cells) ∧ Below w.heap.size w w' := by
  unfold mdStyle StyleV.cells
  dsimp only
  go_enter Tryz.func81, Tryz.ntmps81
  go_wp2
  (try simp only [Exit.inBlock, Exit.then])
  refine bodyPost_ret (results_cell_row (p := 0) (ty := 77) (g := w.heap.size) (t := 77) (cs := #[.int .i64 0, .string ⟨#[42]⟩, .string ⟨#[42]⟩, .string ⟨#[42]⟩, .string ⟨#[42]⟩, .string ⟨#[32, 32]⟩, .string ⟨#[42]⟩, .string ⟨#[60, 98, 114, 47, 62]⟩, .string ⟨#[32, 32]⟩, .string ⟨#[83, 116, 121, 108, 101, 77, 97, 114, 107, 100, 111, 119, 110]⟩]) (fr := (0, 0)) (h := ?r0) (hp := ?r1) (hg := ?r2) (hu := Tryz.underlying77) (hd := rfl) (hi := by kernel_rfl)) rfl ?r3
  case r0 => rfl
  case r1 => rfl
  case r2 => exact heap_alloc_new w _
  case r3 => exact ⟨rfl, (Below.refl _ w).alloc (Nat.le_refl _) _⟩

theorem tenCells {w : World} {q : Nat} {st : StyleV} (h : StyleAt w q st) : w.cell? ⟨q, 0, none⟩ = some (.int .i64 st.fmt) ∧ w.cell? ⟨q, 1, none⟩ = some (.string st.single) ∧ w.cell? ⟨q, 2, none⟩ = some (.string st.top) ∧ w.cell? ⟨q, 3, none⟩ = some (.string st.first) ∧ w.cell? ⟨q, 4, none⟩ = some (.string st.middle) ∧ w.cell? ⟨q, 5, none⟩ = some (.string st.vert) ∧ w.cell? ⟨q, 6, none⟩ = some (.string st.bottom) ∧ w.cell? ⟨q, 7, none⟩ = some (.string st.newline) ∧ w.cell? ⟨q, 8, none⟩ = some (.string st.pfx) ∧ w.cell? ⟨q, 9, none⟩ = some (.string st.nm) :=
  ⟨blk_cell h 0, blk_cell h 1, blk_cell h 2, blk_cell h 3, blk_cell h 4, blk_cell h 5, blk_cell h 6, blk_cell h 7, blk_cell h 8, blk_cell h 9⟩

set_option maxRecDepth 100000 in
set_option maxHeartbeats 8000000 in
theorem mdBack_deferred (B b q0 ko kl : Nat) (st0 : StyleV) (a0 : Int) (s1 css0 : ByteArray) (sty : Value) (items : List (ByteArray × Nat)) (lv : Nat) (w : World) (hB : B ≤ w.heap.size) (h : ListAt w B b a0 s1 css0 sty items lv) (hq : StyleAt w q0 st0) (ho : w.cell? ⟨ko, 0, none⟩ = some (.pointer (some ⟨q0, 0, none⟩))) (hl : w.cell? ⟨kl, 0, none⟩ = some (.pointer (some ⟨b, 0, none⟩))) :
    CallsD Tryz.prog 80 #[.pointer (some ⟨ko, 0, none⟩), .pointer (some ⟨kl, 0, none⟩)] .returning w fun e u' w' => u' = .returning ∧ (e = .returned (.tuple #[]) ∧ Below B w w') := by
  have hten := tenCells hq
  have HTEN := Lib.hid hten
  have HSET := Lib.hid (fun (W : World) (hW : Below w.heap.size w W) => setStyle_any B b a0 s1 css0 sty items lv st0 W (by have := hW.size; omega) (h.below hW))
  unfold StyleV.cells at HSET
  have hd := (Below.refl w.heap.size w).drew
  clear h hq hten
  go_enter_d Tryz.func80, Tryz.ntmps80
  go_wp2_with fail
  obtain ⟨j0, j1, j2, j3, j4, j5, j6, j7, j8, j9⟩ := HTEN.out
  go_region_with (go_at_call 42; refine (HSET.out _ hd).mono ?_; rintro e w1 ⟨qn, rfl, _, _, hb1⟩)
  all_goals
    go_wp2_with fail
    go_end0
    exact ⟨rfl, ((Below.refl B w).drew).trans hb1⟩

set_option maxRecDepth 100000 in
set_option maxHeartbeats 2000000 in
theorem setStyle_far (B b : Nat) (a : Int) (s1 css : ByteArray) (sty : Value) (items : List (ByteArray × Nat)) (lv : Nat) (st : StyleV) (w : World) (hB : B ≤ w.heap.size) (h : ListAt w B b a s1 css sty items lv) :
    Calls Tryz.prog 42 #[.pointer (some ⟨b, 0, none⟩), .agg st.cells] w fun e w' => ∃ q, e = .returned (.tuple #[]) ∧ ListAt w' B b a s1 css (.pointer (some ⟨q, 0, none⟩)) items lv ∧ StyleAt w' q st ∧ Below B w w' ∧ Far b w w' := by
  have hbox := (Below.refl w.heap.size w).alloc (Nat.le_refl _) (.cells st.cells 77)
  have h1 := h.below hbox
  have hs : StyleAt (w.alloc (.cells st.cells 77)) w.heap.size st := heap_alloc_new w _
  have hp := list_put h1 5 (.pointer (some ⟨w.heap.size, 0, none⟩)) (a' := a) (s1' := s1) (css' := css) (sty' := .pointer (some ⟨w.heap.size, 0, none⟩)) (lv' := lv) (fun _ => rfl)
  have hs2 := hp.2.2 _ _ (style_ne h1 hs) hs
  obtain ⟨v, hv⟩ := h1.cells
  have hc5 := blk_cell hv 5
  have hf5 := blk_frozen hv 5
  have hbB := (hbox.mono hB).trans hp.2.1
  have hp1 := hp.1
  have hfar := ((Far.refl b w).blw hbox).put hp.2.2
  unfold StyleV.cells at hs hs2 hp1 hbB hc5 hf5 hfar ⊢
  clear hv h h1 hp hbox
  go_enter Tryz.func42, Tryz.ntmps42
  go_wp2
  go_end0
  exact ⟨_, rfl, hp1, hs2, hbB, hfar⟩

set_option maxRecDepth 100000 in
set_option maxHeartbeats 8000000 in
theorem renderMd_any (B b q0 : Nat) (st0 : StyleV) (a0 : Int) (s1 css0 : ByteArray) (items : List (ByteArray × Nat)) (lv : Nat) (w : World) (hB : B ≤ w.heap.size) (h : ListAt w B b a0 s1 css0 (.pointer (some ⟨q0, 0, none⟩)) items lv) (hq : StyleAt w q0 st0) (hit : itemsSmall items) :
    Calls Tryz.prog 46 #[.pointer (some ⟨b, 0, none⟩)] w fun e w' => e = .returned (.string ⟨(drawD mdStyle items).toArray⟩) ∧ Below B w w' := by
  have hmf : ∀ (fn : Fn) (first cap : Array Value) (w : World), (Instr.makeFunc fn first cap).run Tryz.prog w = .ok (.func fn first cap) w := fun _ _ _ _ => rfl
  obtain ⟨v0, hv0⟩ := h.cells
  have hblt := blk_lt hv0
  have hc5 : w.cell? ⟨b, 5, none⟩ = some (.pointer (some ⟨q0, 0, none⟩)) := blk_cell hv0 5
  have hbA := (Below.refl w.heap.size w).alloc (Nat.le_refl _) (.cells #[.pointer (some ⟨b, 0, none⟩)] 72)
  have hbB := hbA.alloc hbA.size (.cells #[.pointer (some ⟨q0, 0, none⟩)] 98)
  obtain ⟨w0, hw0⟩ : ∃ w0, w0 = (w.alloc (.cells #[.pointer (some ⟨b, 0, none⟩)] 72)).alloc (.cells #[.pointer (some ⟨q0, 0, none⟩)] 98) := ⟨_, rfl⟩
  have hL0 : w0.heap[w.heap.size]? = some (.cells #[.pointer (some ⟨b, 0, none⟩)] 72 (0, 0)) := by
    rw [hw0]; exact (heap_alloc_old _ _ (by simp)).trans (heap_alloc_new w _)
  have hO0 : w0.heap[w.heap.size + 1]? = some (.cells #[.pointer (some ⟨q0, 0, none⟩)] 98 (0, 0)) := by
    rw [hw0]
    have hz : (w.alloc (.cells #[.pointer (some ⟨b, 0, none⟩)] 72)).heap.size = w.heap.size + 1 := by simp
    have := heap_alloc_new (w.alloc (.cells #[.pointer (some ⟨b, 0, none⟩)] 72)) (.cells #[.pointer (some ⟨q0, 0, none⟩)] 98)
    rw [hz] at this
    exact this
  rw [← hw0] at hbB
  have hla0 := h.below hbB
  have hq00 := hq.below hbB
  have hqb := style_ne h hq
  have HIT := Lib.hid hit
  have HQ0 := Lib.hid hq00
  have HL0 := Lib.hid hL0
  have HO0 := Lib.hid hO0
  have HLA := Lib.hid hla0
  have HBB := Lib.hid (hbB.mono hB)
  have hsz0 : B ≤ w0.heap.size := by have := hbB.size; omega
  clear h hq hit hv0 hbA hla0 hq00 hO0 hbB
  go_enter_defers Tryz.func46, Tryz.ntmps46
  go_wp2_with fail
  rw [← hw0]
  clear hw0 hc5
  have jl : w0.cell? ⟨w.heap.size, 0, none⟩ = some (.pointer (some ⟨b, 0, none⟩)) := blk_cell hL0 0
  have hbd := (Below.refl w0.heap.size w0).drew
  have HSET := Lib.hid (fun (W : World) (hW : Below w0.heap.size w0 W) => setStyle_far B b a0 s1 css0 (.pointer (some ⟨q0, 0, none⟩)) items lv mdStyle W (by have := hW.size; omega) (HLA.out.below hW))
  clear hL0
  go_region_with (first
    | (go_at_call 81; refine (mdStyle_any _).mono ?_; rintro e w1 ⟨rfl, hb1⟩; have hb01 := hbd.trans hb1; have jl1 := (hb01.cell (p := ⟨w.heap.size, 0, none⟩) (blk_lt HL0.out)).trans jl)
    | (go_at_call 42; refine (HSET.out _ hb01).mono ?_; rintro e w2 ⟨q1, rfl, hla2, hq2, hb2, hfar2⟩))
  all_goals
    have hbw2 : Below B w w2 := (HBB.out.trans (hb01.mono hsz0)).trans hb2
    have hL2 : w2.heap[w.heap.size]? = some (.cells #[.pointer (some ⟨b, 0, none⟩)] 72 (0, 0)) := hfar2 _ _ (by omega) ((hb01.block w.heap.size (blk_lt HL0.out)).trans HL0.out)
    have hO2 : w2.heap[w.heap.size + 1]? = some (.cells #[.pointer (some ⟨q0, 0, none⟩)] 98 (0, 0)) := hfar2 _ _ (by omega) ((hb01.block (w.heap.size + 1) (blk_lt HO0.out)).trans HO0.out)
    have hQ2 : w2.heap[q0]? = some (.cells st0.cells 77 (0, 0)) := hfar2 _ _ hqb ((hb01.block q0 (blk_lt HQ0.out)).trans HQ0.out)
    have jl2 := blk_cell hL2 0
    have hsz2 : B ≤ w2.heap.size := by have := hbw2.size; omega
    have HREN := Lib.hid (render_keep B b mdStyle items lv [(w.heap.size, .cells #[.pointer (some ⟨b, 0, none⟩)] 72 (0, 0)), (w.heap.size + 1, .cells #[.pointer (some ⟨q0, 0, none⟩)] 98 (0, 0)), (q0, .cells st0.cells 77 (0, 0))] q1 a0 s1 css0 w2 hsz2 hla2 hq2 (fun y hy => by
      rcases List.mem_cons.1 hy with rfl | hy
      · exact ⟨by show w.heap.size ≠ b; omega, ⟨_, _, _, rfl, by decide, by decide⟩, hL2⟩
      · rcases List.mem_cons.1 hy with rfl | hy
        · exact ⟨by show w.heap.size + 1 ≠ b; omega, ⟨_, _, _, rfl, by decide, by decide⟩, hO2⟩
        · rcases List.mem_cons.1 hy with rfl | hy
          · exact ⟨hqb, ⟨_, _, _, rfl, by decide, by decide⟩, hQ2⟩
          · cases hy) md_small HIT.out)
    clear hla2 hq2 hL2 hO2 hQ2 hfar2 hb2 hb01 hbd hb1 jl jl1
    go_wp2_with fail
    refine HREN.out.mono ?_
    rintro e w3 ⟨rfl, hb3, q3, a3, hla3, hk3⟩
    have hbw3 := hbw2.trans hb3
    have hL3 := hk3 _ (List.mem_cons_self ..)
    have hO3 := hk3 _ (List.mem_cons_of_mem _ (List.mem_cons_self ..))
    have hQ3 : StyleAt w3 q0 st0 := hk3 _ (List.mem_cons_of_mem _ (List.mem_cons_of_mem _ (List.mem_cons_self ..)))
    have hl3 : w3.cell? ⟨w.heap.size, 0, none⟩ = some (.pointer (some ⟨b, 0, none⟩)) := blk_cell hL3 0
    have ho3 : w3.cell? ⟨w.heap.size + 1, 0, none⟩ = some (.pointer (some ⟨q0, 0, none⟩)) := blk_cell hO3 0
    have HDEF := Lib.hid (mdBack_deferred B b q0 (w.heap.size + 1) w.heap.size st0 a3 _ _ _ items lv w3 (by have := hbw3.size; omega) hla3 hQ3 ho3 hl3)
    clear hk3 hla3 hQ3 HREN hL3 hO3
    go_wp2
    refine leaves_cons (f := 80) (args := #[.pointer (some ⟨w.heap.size + 1, 0, none⟩), .pointer (some ⟨w.heap.size, 0, none⟩)]) (by simp) (by simp [go_sem]) ?_
    refine HDEF.out.mono ?_
    rintro e u' w4 ⟨rfl, rfl, hb4⟩
    exact ⟨_, results_tmp rfl _ _ _, rfl, hbw3.trans hb4⟩

set_option maxRecDepth 100000 in
set_option maxHeartbeats 4000000 in
theorem listMd_of (A : Option Addr) (n c : Nat) (l : List Step) (st : StyleV) (w : World) (h : StepsAt w w.heap.size A n c l) (hC : cost l ≤ 2000) (hlen : l.length ≤ 2000) (hpl : ∀ s ∈ l, plainS s) (hit : itemsSmall (played l)) (hn : st.nm = ⟨#[]⟩) :
    Calls Tryz.prog 20 #[.slice A n c, st.arg] w fun e w' => e = .returned (.string ⟨(drawD mdStyle (played l)).toArray⟩) ∧ Below w.heap.size w w' := by
  have HI := Lib.hid hit
  have HPL := Lib.hid hpl
  have HNM := Lib.hid hn
  clear hpl hit hn
  unfold StyleV.arg
  have hbox := (Below.refl w.heap.size w).alloc (Nat.le_refl _) (.cells #[.int .i64 st.fmt, .string st.single, .string st.top, .string st.first, .string st.middle, .string st.vert, .string st.bottom, .string st.newline, .string st.pfx] 24)
  have h1 := (h.below hbox).more hbox.size
  have hhb : (w.alloc (.cells #[.int .i64 st.fmt, .string st.single, .string st.top, .string st.first, .string st.middle, .string st.vert, .string st.bottom, .string st.newline, .string st.pfx] 24)).heap[w.heap.size]? = some (.cells #[.int .i64 st.fmt, .string st.single, .string st.top, .string st.first, .string st.middle, .string st.vert, .string st.bottom, .string st.newline, .string st.pfx] 24 (0, 0)) := heap_alloc_new w _
  obtain ⟨w0, hw0⟩ : ∃ w0, w0 = w.alloc (.cells #[.int .i64 st.fmt, .string st.single, .string st.top, .string st.first, .string st.middle, .string st.vert, .string st.bottom, .string st.newline, .string st.pfx] 24) := ⟨_, rfl⟩
  clear h
  go_enter Tryz.func20, Tryz.ntmps20
  go_wp2_with fail
  rw [← hw0] at hbox h1 hhb ⊢
  clear hw0
  refine (listOf_any A n c l _ h1 (by omega) (by omega) HPL.out).mono ?_
  rintro e w1 ⟨b, rfl, hla, hb1⟩
  have hblk : w1.heap[w.heap.size]? = _ := (hb1.block w.heap.size (blk_lt hhb)).trans hhb
  have k0 := blk_cell hblk 0
  have k1 := blk_cell hblk 1
  have k2 := blk_cell hblk 2
  have k3 := blk_cell hblk 3
  have k4 := blk_cell hblk 4
  have k5 := blk_cell hblk 5
  have k6 := blk_cell hblk 6
  have k7 := blk_cell hblk 7
  have k8 := blk_cell hblk 8
  go_wp2_with fail
  refine (styleOf_any st _ HNM.out).mono ?_
  rintro e w2 ⟨rfl, hb2⟩
  have hla2 := hla.below hb2
  have hb12 := hb1.trans (hb2.mono hb1.size)
  clear hla k0 k1 k2 k3 k4 k5 k6 k7 k8 hblk hhb
  go_wp2_with fail
  refine (setStyle_any w0.heap.size b 0 ⟨#[]⟩ ⟨#[]⟩ (.pointer none) _ _ st _ hb12.size hla2).mono ?_
  rintro e w3 ⟨q, rfl, hla3, hsq, hb3⟩
  have hb13 := hb12.trans hb3
  go_wp2_with fail
  refine (renderMd_any w0.heap.size b q st 0 ⟨#[]⟩ ⟨#[]⟩ _ _ _ hb13.size hla3 hsq HI.out).mono ?_
  rintro e w4 ⟨rfl, hb4⟩
  have hb5 := hbox.trans ((hb13.trans hb4).mono hbox.size)
  go_wp2
  go_ret
  exact ⟨rfl, hb5⟩
end Go.Proofs.YtdkpacgbniclhaaGreatDoor
