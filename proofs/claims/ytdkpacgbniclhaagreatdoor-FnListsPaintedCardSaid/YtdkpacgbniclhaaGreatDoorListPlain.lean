/- Walks of impl.ListPlain, impl.ListRender, laws.ltAlive: what some steps look like in a style. Condition: sizes below the bounds that are named. -/
import Derived.Test.YtdkpacgbniclhaaGreatDoorDrawList
import Derived.Test.YtdkpacgbniclhaaGreatDoorListsClass
namespace Go.Proofs.YtdkpacgbniclhaaGreatDoor
open Go.RowKit

theorem right_small {l : List Step} (h : rightB l = true) : ∀ s ∈ l, s.text.size ≤ 1000 ∧ ∀ t ∈ s.texts, t.size ≤ 1000 := by
  unfold rightB at h
  simp only [Bool.and_eq_true] at h
  have h1 := List.all_eq_true.1 h.1
  intro s hs
  have := h1 s hs
  unfold stepRightB at this
  simp only [Bool.and_eq_true] at this
  have key : ∀ t, textB t = true → t.size ≤ 1000 := fun t ht => by unfold textB at ht; simp only [Bool.and_eq_true, decide_eq_true_eq] at ht; omega
  exact ⟨key _ this.1, fun t ht => key _ (List.all_eq_true.1 this.2.2 t ht)⟩
theorem played_drawn {l : List Step} (hl : l.length ≤ 300) (hc : cost l ≤ 2000) (hm : ∀ s ∈ l, s.text.size ≤ 1000 ∧ ∀ t ∈ s.texts, t.size ≤ 1000) : itemsSmall (played l) := by
  have h1 := played_small l 1000 hm l.length
  have h2 := play_size l l.length
  rw [playK_all (Nat.le_refl _)] at h1 h2
  rw [List.take_length] at h2
  exact ⟨by unfold played; omega, fun x hx => ⟨(h1.1 x hx).1, by have := (h1.1 x hx).2; omega⟩⟩
theorem plain_drawn : styleSmall plainStyle := ⟨rfl, by decide, by decide, by decide, by decide, by decide, by decide, by decide, by decide⟩

/-- A style that is handed over: the fields of impl.ListStyle. -/
def StyleV.arg (st : StyleV) : Value := .agg #[.int .i64 st.fmt, .string st.single, .string st.top, .string st.first, .string st.middle, .string st.vert, .string st.bottom, .string st.newline, .string st.pfx]

set_option maxRecDepth 100000 in
set_option maxHeartbeats 2000000 in
theorem styleOf_any (st : StyleV) (w : World) (hn : st.nm = ⟨#[]⟩) :
    Calls Tryz.prog 43 #[st.arg] w fun e w' => e = .returned (.agg st.cells) ∧ Below w.heap.size w w' := by
  obtain ⟨f, s1, s2, s3, s4, s5, s6, s7, s8, nm⟩ := st
  dsimp only at hn
  subst hn
  unfold StyleV.arg
  dsimp only
  go_enter Tryz.func43, Tryz.ntmps43
  go_wp2
  (try simp only [Exit.inBlock, Exit.then])
  refine bodyPost_ret (results_cell_row (p := 2) (ty := 77) (g := w.heap.size + 1) (t := 77) (cs := #[.int .i64 f, .string s1, .string s2, .string s3, .string s4, .string s5, .string s6, .string s7, .string s8, .string ⟨#[]⟩]) (fr := (0, 0)) (h := ?r0) (hp := ?r1) (hg := ?r2) (hu := Tryz.underlying77) (hd := rfl) (hi := by kernel_rfl)) rfl ?r3
  case r0 => rfl
  case r1 => rfl
  case r2 =>
    have h1 := heap_alloc_new (w.alloc (.cells #[.int .i64 f, .string s1, .string s2, .string s3, .string s4, .string s5, .string s6, .string s7, .string s8] 24)) (.cells #[.int .i64 f, .string s1, .string s2, .string s3, .string s4, .string s5, .string s6, .string s7, .string s8, .string ⟨#[]⟩] 77)
    have h2 : (w.alloc (.cells #[.int .i64 f, .string s1, .string s2, .string s3, .string s4, .string s5, .string s6, .string s7, .string s8] 24)).heap.size = w.heap.size + 1 := by simp
    rw [h2] at h1
    exact h1
  case r3 => exact ⟨rfl, ((Below.refl _ w).alloc (Nat.le_refl _) _).alloc (by simp) _⟩

set_option maxRecDepth 100000 in
set_option maxHeartbeats 2000000 in
theorem setStyle_any (B b : Nat) (a : Int) (s1 css : ByteArray) (sty : Value) (items : List (ByteArray × Nat)) (lv : Nat) (st : StyleV) (w : World) (hB : B ≤ w.heap.size) (h : ListAt w B b a s1 css sty items lv) :
    Calls Tryz.prog 42 #[.pointer (some ⟨b, 0, none⟩), .agg st.cells] w fun e w' => ∃ q, e = .returned (.tuple #[]) ∧ ListAt w' B b a s1 css (.pointer (some ⟨q, 0, none⟩)) items lv ∧ StyleAt w' q st ∧ Below B w w' := by
  have hbox := (Below.refl w.heap.size w).alloc (Nat.le_refl _) (.cells st.cells 77)
  have h1 := h.below hbox
  have hs : StyleAt (w.alloc (.cells st.cells 77)) w.heap.size st := heap_alloc_new w _
  have hp := list_put h1 5 (.pointer (some ⟨w.heap.size, 0, none⟩)) (a' := a) (s1' := s1) (css' := css) (sty' := .pointer (some ⟨w.heap.size, 0, none⟩)) (lv' := lv) (fun _ => rfl)
  have hs2 := hp.2.2 _ _ (style_ne h1 hs) hs
  obtain ⟨v, hv⟩ := h1.cells
  have hc5 := blk_cell hv 5
  have hf5 := blk_frozen hv 5
  have hbB := (hbox.mono hB).trans hp.2.1
  have hp1 := hp.1
  unfold StyleV.cells at hs hs2 hp1 hbB hc5 hf5 ⊢
  clear hv h h1 hp hbox
  go_enter Tryz.func42, Tryz.ntmps42
  go_wp2
  go_end0
  exact ⟨_, rfl, hp1, hs2, hbB⟩

set_option maxRecDepth 100000 in
set_option maxHeartbeats 4000000 in
theorem listRender_of (A : Option Addr) (n c : Nat) (l : List Step) (st : StyleV) (w : World) (h : StepsAt w w.heap.size A n c l) (hC : cost l ≤ 2000) (hlen : l.length ≤ 2000) (hpl : ∀ s ∈ l, plainS s) (hit : itemsSmall (played l)) (hst : styleSmall st) (hn : st.nm = ⟨#[]⟩) :
    Calls Tryz.prog 18 #[.slice A n c, st.arg] w fun e w' => e = .returned (.string ⟨(drawD st (played l)).toArray⟩) ∧ Below w.heap.size w w' := by
  have HI := Lib.hid hit
  have HPL := Lib.hid hpl
  have HST := Lib.hid hst
  have HNM := Lib.hid hn
  clear hpl hit hst hn
  unfold StyleV.arg
  have hbox := (Below.refl w.heap.size w).alloc (Nat.le_refl _) (.cells #[.int .i64 st.fmt, .string st.single, .string st.top, .string st.first, .string st.middle, .string st.vert, .string st.bottom, .string st.newline, .string st.pfx] 24)
  have h1 := (h.below hbox).more hbox.size
  have hhb : (w.alloc (.cells #[.int .i64 st.fmt, .string st.single, .string st.top, .string st.first, .string st.middle, .string st.vert, .string st.bottom, .string st.newline, .string st.pfx] 24)).heap[w.heap.size]? = some (.cells #[.int .i64 st.fmt, .string st.single, .string st.top, .string st.first, .string st.middle, .string st.vert, .string st.bottom, .string st.newline, .string st.pfx] 24 (0, 0)) := heap_alloc_new w _
  obtain ⟨w0, hw0⟩ : ∃ w0, w0 = w.alloc (.cells #[.int .i64 st.fmt, .string st.single, .string st.top, .string st.first, .string st.middle, .string st.vert, .string st.bottom, .string st.newline, .string st.pfx] 24) := ⟨_, rfl⟩
  clear h
  go_enter Tryz.func18, Tryz.ntmps18
  go_wp2_with fail
  rw [← hw0] at hbox h1 hhb ⊢
  clear hw0
  refine (listOf_any A n c l _ h1 (by omega) (by omega) HPL.out).mono ?_
  rintro e w1 ⟨b, rfl, hla, hb1⟩
  have hblk : w1.heap[w.heap.size]? = _ := (hb1.block w.heap.size (blk_lt hhb)).trans hhb
  have k0 := blk_cell hblk 0
  have k1 := blk_cell hblk 1
  have k2 := blk_cell hblk 2
  have k3 := blk_cell hblk 3
  have k4 := blk_cell hblk 4
  have k5 := blk_cell hblk 5
  have k6 := blk_cell hblk 6
  have k7 := blk_cell hblk 7
  have k8 := blk_cell hblk 8
  go_wp2_with fail
  refine (styleOf_any st _ HNM.out).mono ?_
  rintro e w2 ⟨rfl, hb2⟩
  have hla2 := hla.below hb2
  have hb12 := hb1.trans (hb2.mono hb1.size)
  clear hla k0 k1 k2 k3 k4 k5 k6 k7 k8 hblk hhb
  go_wp2_with fail
  refine (setStyle_any w0.heap.size b 0 ⟨#[]⟩ ⟨#[]⟩ (.pointer none) _ _ st _ hb12.size hla2).mono ?_
  rintro e w3 ⟨q, rfl, hla3, hsq, hb3⟩
  have hb13 := hb12.trans hb3
  go_wp2_with fail
  refine (render_any w0.heap.size b st _ _ (.pointer (some ⟨q, 0, none⟩)) 0 ⟨#[]⟩ ⟨#[]⟩ _ hb13.size hla3 (Or.inr ⟨q, rfl, hsq⟩) HST.out HI.out).mono ?_
  rintro e w4 ⟨rfl, hb4, _⟩
  have hb5 := hbox.trans ((hb13.trans hb4).mono hbox.size)
  go_wp2
  go_ret
  exact ⟨rfl, hb5⟩

def aliveStyle : StyleV := ⟨0, ⟨#[42]⟩, ⟨#[]⟩, ⟨#[]⟩, ⟨#[]⟩, ⟨#[]⟩, ⟨#[]⟩, ⟨#[10]⟩, ⟨#[]⟩, ⟨#[]⟩⟩
theorem alive_small : styleSmall aliveStyle := ⟨rfl, by decide, by decide, by decide, by decide, by decide, by decide, by decide, by decide⟩
theorem one_items : itemsSmall (played (oneStep ⟨#[97]⟩)) := ⟨by decide, by intro x hx; simp [played, oneStep, playStep] at hx; subst hx; exact ⟨by decide, by decide⟩⟩
theorem alive_drawn : drawD aliveStyle (played (oneStep ⟨#[97]⟩)) = [42, 32, 97] := by
  have h1 : textD aliveStyle ⟨#[97]⟩ = ⟨#[97]⟩ := by unfold textD; rw [if_neg (fun e => e.2 rfl)]
  have h2 : splitL [10] [97] = [[97]] := by rw [splitL_miss (by decide), splitL_nil]
  have h3 : linesOf aliveStyle ⟨#[97]⟩ = [⟨#[97]⟩] := by unfold linesOf; rw [h1]; show (splitL [10] [97]).map mkB = _; rw [h2]; rfl
  show drawD aliveStyle [(⟨#[97]⟩, 0)] = _
  simp only [drawD, mapCat, itemD, h3]
  rfl

set_option maxRecDepth 100000 in
set_option maxHeartbeats 2000000 in
theorem alive_any (w : World) : Calls Tryz.prog 22 #[] w fun e w' => e = .returned (.bool true) ∧ Below w.heap.size w w' := by
  have hone := one_at w ⟨#[97]⟩
  have hb1 := (Below.refl w.heap.size w).alloc (Nat.le_refl _) (.cells #[.int .i64 0, .string ⟨#[97]⟩, .slice none 0 0] 66)
  have HD := Lib.hid (show (⟨(drawD aliveStyle (played (oneStep ⟨#[97]⟩))).toArray⟩ : ByteArray) = ⟨#[42, 32, 97]⟩ by rw [alive_drawn])
  go_enter Tryz.func22, Tryz.ntmps22
  go_wp2_with fail
  refine (listRender_of _ _ _ (oneStep ⟨#[97]⟩) aliveStyle _ hone (by decide) (by decide) one_plain one_items alive_small rfl).mono ?_
  rintro e w2 ⟨rfl, hb2⟩
  rw [HD.out]
  have hb3 := hb1.trans (hb2.mono hb1.size)
  go_wp2
  go_ret
  exact ⟨rfl, hb3⟩
end Go.Proofs.YtdkpacgbniclhaaGreatDoor
