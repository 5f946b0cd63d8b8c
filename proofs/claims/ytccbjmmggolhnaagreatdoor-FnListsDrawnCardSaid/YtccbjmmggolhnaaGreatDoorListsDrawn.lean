/- Walk of laws.FnListsDrawn: it answers true and writes nothing that was there. No condition. -/
import Derived.Test.YtccbjmmggolhnaaGreatDoorLt
import Derived.Test.YtccbjmmggolhnaaGreatDoorListsUn
import Derived.Deep.RegionHeld3
namespace Go.Proofs.YtccbjmmggolhnaaGreatDoor
open Go.RowKit

theorem flatI_at {l : List (ByteArray × Nat)} : ∀ {k : Nat} {x : ByteArray × Nat}, l[k]? = some x → (flatI l)[2 * k]? = some (.string x.1) ∧ (flatI l)[2 * k + 1]? = some (.int .i64 x.2) := by
  induction l with
  | nil => intro k x h; simp at h
  | cons y l ih =>
    intro k x h
    match k, h with
    | 0, h => simp at h; subst h; exact ⟨rfl, rfl⟩
    | k + 1, h =>
      have h2 := ih (k := k) (x := x) (by simpa using h)
      show ((.string y.1 :: .int .i64 y.2 :: flatI l : List Value))[2 * (k + 1)]? = _ ∧ ((.string y.1 :: .int .i64 y.2 :: flatI l : List Value))[2 * (k + 1) + 1]? = _
      rw [show 2 * (k + 1) = 2 * k + 1 + 1 by omega, List.getElem?_cons_succ, List.getElem?_cons_succ, List.getElem?_cons_succ, List.getElem?_cons_succ]
      exact h2
theorem OwnItems.at_ {w : World} {B : Nat} {v : Value} {l : List (ByteArray × Nat)} (h : OwnItems w B v l) : ∃ A c, v = .slice A l.length c ∧ ItemsAt w w.heap.size A l.length c l := by
  obtain ⟨A, c, hv, hr⟩ := own_rd h
  exact ⟨A, c, hv, _, hr, rfl, fun k x hx => flatI_at hx⟩
theorem StepsAt.drew {w : World} {B n c : Nat} {A : Option Addr} {l : List Step} (h : StepsAt w B A n c l) : StepsAt w.drew B A n c l := by
  obtain ⟨xs, h1, h2, h3⟩ := h
  refine ⟨xs, h1.drew, h2, fun k s hk => ?_⟩
  obtain ⟨A', n', c', a, b, c1, d⟩ := h3 k s hk
  exact ⟨A', n', c', a, b, c1, Rd.drew d⟩
theorem draws_same {l : List Step} {st : StyleV} (hr : rightB l = true) (hs : styledB st = true) : drawnT st (played l) = drawD st (played l) := by
  obtain ⟨_, h2, h3, _⟩ := styled_facts hs
  exact drawn_eq h2 h3 (right_simple hr)

set_option maxRecDepth 100000 in
set_option maxHeartbeats 16000000 in
theorem listsDrawn_any (A : Option Addr) (n c : Nat) (l : List Step) (st : StyleV) (w : World) (h : StepsAt w w.heap.size A n c l) (hnm : st.nm = ⟨#[]⟩) :
    Calls Tryz.prog 3 #[.slice A n c, st.arg] w fun e w' => e = .returned (.bool true) ∧ Below w.heap.size w w' := by
  unfold StyleV.arg
  have hbox := (Below.refl w.heap.size w).alloc (Nat.le_refl _) (.cells #[.int .i64 st.fmt, .string st.single, .string st.top, .string st.first, .string st.middle, .string st.vert, .string st.bottom, .string st.newline, .string st.pfx] 24)
  have h1 := (h.below hbox).more hbox.size
  have hhb : (w.alloc (.cells #[.int .i64 st.fmt, .string st.single, .string st.top, .string st.first, .string st.middle, .string st.vert, .string st.bottom, .string st.newline, .string st.pfx] 24)).heap[w.heap.size]? = some (.cells #[.int .i64 st.fmt, .string st.single, .string st.top, .string st.first, .string st.middle, .string st.vert, .string st.bottom, .string st.newline, .string st.pfx] 24 (0, 0)) := heap_alloc_new w _
  obtain ⟨w0, hw0⟩ : ∃ w0, w0 = w.alloc (.cells #[.int .i64 st.fmt, .string st.single, .string st.top, .string st.first, .string st.middle, .string st.vert, .string st.bottom, .string st.newline, .string st.pfx] 24) := ⟨_, rfl⟩
  have hlt0 : w.heap.size < w0.heap.size := by rw [hw0]; simp
  clear h
  cases hf : fitStepsB l with
  | false =>
    have HFS := Lib.hid hf
    clear hf
    go_enter Tryz.func3, Tryz.ntmps3
    go_wp2_with fail
    rw [← hw0] at hbox h1 hhb ⊢
    clear hw0
    refine (fitSteps_any A n c l _ h1).mono ?_
    rintro e w1 ⟨rfl, hb1⟩
    rw [HFS.out]
    have hb2 := hbox.trans (hb1.mono hbox.size)
    clear h1 hhb hb1
    go_wp2
    go_ret
    exact ⟨rfl, hb2⟩
  | true =>
  have HFS := Lib.hid hf
  clear hf
  have hfs := fun W => fitStyle_any st W
  unfold StyleV.arg at hfs
  obtain ⟨fb, hfb⟩ : ∃ fb, fb = fitStyleB st := ⟨_, rfl⟩
  rw [← hfb] at hfs
  have HFT := Lib.hid hfs
  clear hfs hfb
  go_enter Tryz.func3, Tryz.ntmps3
  go_wp2_with fail
  rw [← hw0] at hbox h1 hhb ⊢
  clear hw0
  refine (fitSteps_any A n c l _ h1).mono ?_
  rintro e w1 ⟨rfl, hb1⟩
  rw [HFS.out]
  have hblk1 : w1.heap[w.heap.size]? = _ := (hb1.block w.heap.size (blk_lt hhb)).trans hhb
  have k0 := blk_cell hblk1 0
  have k1 := blk_cell hblk1 1
  have k2 := blk_cell hblk1 2
  have k3 := blk_cell hblk1 3
  have k4 := blk_cell hblk1 4
  have k5 := blk_cell hblk1 5
  have k6 := blk_cell hblk1 6
  have k7 := blk_cell hblk1 7
  have k8 := blk_cell hblk1 8
  go_wp2_with fail
  refine (HFT.out _).mono ?_
  rintro e w2 ⟨rfl, hb2⟩
  have hb02 := hb1.trans (hb2.mono hb1.size)
  have hbw2 := hbox.trans (hb02.mono hbox.size)
  have h2 := (h1.below hb02).more hb02.size
  have hblk2 : w2.heap[w.heap.size]? = _ := (hb2.block w.heap.size (blk_lt hblk1)).trans hblk1
  have hlt2 : w.heap.size < w2.heap.size := blk_lt hblk2
  clear k0 k1 k2 k3 k4 k5 k6 k7 k8 hblk1 hhb h1 hb1 hb2 HFT
  cases fb with
  | false =>
    go_wp2
    go_ret
    exact ⟨rfl, hbw2⟩
  | true =>
  have HBOX := Lib.hid (fun (W : World) (hW : Below w2.heap.size w2 W) => box9 hblk2 hlt2 hW)
  have HF := Lib.hid (fun (W : World) (hW : Below w2.heap.size w2 W) => hbw2.trans (hW.mono hbw2.size))
  have hd2 := (Below.refl w2.heap.size w2).drew
  have h2d := h2.drew
  have hblk2' := Lib.hid hblk2
  clear hblk2
  cases hr : rightB l with
  | false =>
    have HR := Lib.hid hr
    clear hr
    go_wp2_with fail
    refine wp_region_held_drew (S := (fun w' => w'.cell? ⟨w.heap.size, 0, none⟩ = some (.int .i64 st.fmt) ∧ w'.cell? ⟨w.heap.size, 1, none⟩ = some (.string st.single) ∧ w'.cell? ⟨w.heap.size, 2, none⟩ = some (.string st.top) ∧ w'.cell? ⟨w.heap.size, 3, none⟩ = some (.string st.first) ∧ w'.cell? ⟨w.heap.size, 4, none⟩ = some (.string st.middle) ∧ w'.cell? ⟨w.heap.size, 5, none⟩ = some (.string st.vert) ∧ w'.cell? ⟨w.heap.size, 6, none⟩ = some (.string st.bottom) ∧ w'.cell? ⟨w.heap.size, 7, none⟩ = some (.string st.newline) ∧ w'.cell? ⟨w.heap.size, 8, none⟩ = some (.string st.pfx) ∧ Below w2.heap.size w2 w')) (by kernel_rfl) (HBOX.out _ hd2) (fun hHeld => ?_)
    refine wpAnyH_take (i := 0) (oi := { dst := some 13, op := Op.move (Operand.tmp 0), type := 22, pos := "laws_lists_wt04c.go:15", after := #[], guard := none }) (v := ?va1) rfl (by kernel_rfl) (by kernel_rfl) (by kernel_rfl) (fun _ _ _ h => h) (Or.inl ⟨by rfl, ?hy1⟩) (by assumption) ?re1
    case hy1 => (intro w hSw; (try dsimp only at hSw); go_simp; try with_reducible rfl)
    try simp only [Act.put, List.setIfInBounds_toArray, List.set_cons_zero, List.set_cons_succ]
    refine wpAnyH_ready (rs := [1]) (by kernel_rfl) (by simp) ?_
    refine AllReadyH.cons (o := { dst := some 14, op := Op.call { callee := Callee.value (Operand.func 8), args := #[Operand.tmp 13], argTypes := #[22] }, type := 4, pos := "laws_lists_wt04c.go:15", after := #[{ on := 0, ground := Ground.data }], guard := none }) rfl (fun K hK => ?_) AllReadyH.nil
    go_simp
    refine (right_any A n c l _ h2d).mono ?_
    rintro e w4 ⟨rfl, hb4⟩
    rw [HR.out]
    have hbA := hd2.trans hb4
    refine hK.out _ _ (HBOX.out _ hbA) (fun hHeld => ?_)
    clear hK K
    try simp only [Act.put, List.setIfInBounds_toArray, List.set_cons_zero, List.set_cons_succ]
    refine wpAnyH_take (i := 2) (oi := { dst := some 15, op := Op.unOp UnOp.not 4 (Operand.tmp 14), type := 4, pos := "laws_lists_wt04c.go:15", after := #[{ on := 1, ground := Ground.data }], guard := none }) (v := ?va2) rfl (by kernel_rfl) (by kernel_rfl) (by kernel_rfl) (fun _ _ _ h => h) (Or.inl ⟨by rfl, ?hy2⟩) (by assumption) ?re2
    case hy2 => (intro w hSw; (try dsimp only at hSw); go_simp; try with_reducible rfl)
    try simp only [Act.put, List.setIfInBounds_toArray, List.set_cons_zero, List.set_cons_succ]
    refine wpAnyH_take (i := 3) (oi := { dst := some 16, op := Op.move (Operand.tmp 15), type := 4, pos := "laws_lists_wt04c.go:15", after := #[{ on := 2, ground := Ground.data }, { on := 1, ground := Ground.chain }], guard := none }) (v := ?va3) rfl (by kernel_rfl) (by kernel_rfl) (by kernel_rfl) (fun _ _ _ h => h) (Or.inl ⟨by rfl, ?hy3⟩) (by assumption) ?re3
    case hy3 => (intro w hSw; (try dsimp only at hSw); go_simp; try with_reducible rfl)
    try simp only [Act.put, List.setIfInBounds_toArray, List.set_cons_zero, List.set_cons_succ]
    refine wpAnyH_take (i := 4) (oi := { dst := some 17, op := Op.load 24 (Operand.tmp 3), type := 24, pos := "laws_lists_wt04c.go:15", after := #[{ on := 3, ground := Ground.guard }], guard := some (3, false) }) (v := undef) rfl (by kernel_rfl) (by kernel_rfl) (by kernel_rfl) (fun _ _ _ h => h) (Or.inr ⟨by rfl, rfl⟩) (by assumption) ?_
    try simp only [Act.put, List.setIfInBounds_toArray, List.set_cons_zero, List.set_cons_succ]
    refine wpAnyH_take (i := 5) (oi := { dst := some 18, op := Op.call { callee := Callee.value (Operand.func 9), args := #[Operand.tmp 17], argTypes := #[24] }, type := 4, pos := "laws_lists_wt04c.go:15", after := #[{ on := 4, ground := Ground.data }, { on := 3, ground := Ground.chain }, { on := 3, ground := Ground.guard }], guard := some (3, false) }) (v := undef) rfl (by kernel_rfl) (by kernel_rfl) (by kernel_rfl) (fun _ _ _ h => h) (Or.inr ⟨by rfl, rfl⟩) (by assumption) ?_
    try simp only [Act.put, List.setIfInBounds_toArray, List.set_cons_zero, List.set_cons_succ]
    refine wpAnyH_take (i := 6) (oi := { dst := some 19, op := Op.unOp UnOp.not 4 (Operand.tmp 18), type := 4, pos := "laws_lists_wt04c.go:15", after := #[{ on := 5, ground := Ground.data }, { on := 3, ground := Ground.guard }], guard := some (3, false) }) (v := undef) rfl (by kernel_rfl) (by kernel_rfl) (by kernel_rfl) (fun _ _ _ h => h) (Or.inr ⟨by rfl, rfl⟩) (by assumption) ?_
    try simp only [Act.put, List.setIfInBounds_toArray, List.set_cons_zero, List.set_cons_succ]
    refine wpAnyH_take (i := 7) (oi := { dst := some 20, op := Op.pick (Operand.tmp 16) (Operand.const (Value.bool true)) (Operand.tmp 19), type := 4, pos := "laws_lists_wt04c.go:15", after := #[{ on := 3, ground := Ground.data }, { on := 6, ground := Ground.data }], guard := none }) (v := ?va4) rfl (by kernel_rfl) (by kernel_rfl) (by kernel_rfl) (fun _ _ _ h => h) (Or.inl ⟨by rfl, ?hy4⟩) (by assumption) ?re4
    case hy4 => (intro w hSw; (try dsimp only at hSw); go_simp; try with_reducible rfl)
    try simp only [Act.put, List.setIfInBounds_toArray, List.set_cons_zero, List.set_cons_succ]
    refine wpAnyH_take (i := 8) (oi := { dst := some 21, op := Op.move (Operand.tmp 20), type := 4, pos := "laws_lists_wt04c.go:15", after := #[{ on := 7, ground := Ground.data }, { on := 5, ground := Ground.chain }], guard := none }) (v := ?va5) rfl (by kernel_rfl) (by kernel_rfl) (by kernel_rfl) (fun _ _ _ h => h) (Or.inl ⟨by rfl, ?hy5⟩) (by assumption) ?re5
    case hy5 => (intro w hSw; (try dsimp only at hSw); go_simp; try with_reducible rfl)
    try simp only [Act.put, List.setIfInBounds_toArray, List.set_cons_zero, List.set_cons_succ]
    refine wpAnyH_take (i := 9) (oi := { dst := some 22, op := Op.move (Operand.tmp 0), type := 22, pos := "laws_lists_wt04c.go:15", after := #[{ on := 8, ground := Ground.guard }], guard := some (8, false) }) (v := undef) rfl (by kernel_rfl) (by kernel_rfl) (by kernel_rfl) (fun _ _ _ h => h) (Or.inr ⟨by rfl, rfl⟩) (by assumption) ?_
    try simp only [Act.put, List.setIfInBounds_toArray, List.set_cons_zero, List.set_cons_succ]
    refine wpAnyH_take (i := 10) (oi := { dst := some 23, op := Op.load 24 (Operand.tmp 3), type := 24, pos := "laws_lists_wt04c.go:15", after := #[{ on := 8, ground := Ground.guard }], guard := some (8, false) }) (v := undef) rfl (by kernel_rfl) (by kernel_rfl) (by kernel_rfl) (fun _ _ _ h => h) (Or.inr ⟨by rfl, rfl⟩) (by assumption) ?_
    try simp only [Act.put, List.setIfInBounds_toArray, List.set_cons_zero, List.set_cons_succ]
    refine wpAnyH_take (i := 11) (oi := { dst := some 24, op := Op.call { callee := Callee.value (Operand.func 10), args := #[Operand.tmp 22, Operand.tmp 23], argTypes := #[22, 24] }, type := 9, pos := "laws_lists_wt04c.go:15", after := #[{ on := 9, ground := Ground.data }, { on := 10, ground := Ground.data }, { on := 8, ground := Ground.chain }, { on := 8, ground := Ground.guard }], guard := some (8, false) }) (v := undef) rfl (by kernel_rfl) (by kernel_rfl) (by kernel_rfl) (fun _ _ _ h => h) (Or.inr ⟨by rfl, rfl⟩) (by assumption) ?_
    try simp only [Act.put, List.setIfInBounds_toArray, List.set_cons_zero, List.set_cons_succ]
    refine wpAnyH_take (i := 12) (oi := { dst := some 25, op := Op.move (Operand.tmp 0), type := 22, pos := "laws_lists_wt04c.go:15", after := #[{ on := 8, ground := Ground.guard }], guard := some (8, false) }) (v := undef) rfl (by kernel_rfl) (by kernel_rfl) (by kernel_rfl) (fun _ _ _ h => h) (Or.inr ⟨by rfl, rfl⟩) (by assumption) ?_
    try simp only [Act.put, List.setIfInBounds_toArray, List.set_cons_zero, List.set_cons_succ]
    refine wpAnyH_take (i := 13) (oi := { dst := some 26, op := Op.call { callee := Callee.value (Operand.func 12), args := #[Operand.tmp 25], argTypes := #[22] }, type := 29, pos := "laws_lists_wt04c.go:15", after := #[{ on := 12, ground := Ground.data }, { on := 11, ground := Ground.chain }, { on := 8, ground := Ground.guard }], guard := some (8, false) }) (v := undef) rfl (by kernel_rfl) (by kernel_rfl) (by kernel_rfl) (fun _ _ _ h => h) (Or.inr ⟨by rfl, rfl⟩) (by assumption) ?_
    try simp only [Act.put, List.setIfInBounds_toArray, List.set_cons_zero, List.set_cons_succ]
    refine wpAnyH_take (i := 14) (oi := { dst := some 27, op := Op.load 24 (Operand.tmp 3), type := 24, pos := "laws_lists_wt04c.go:15", after := #[{ on := 8, ground := Ground.guard }], guard := some (8, false) }) (v := undef) rfl (by kernel_rfl) (by kernel_rfl) (by kernel_rfl) (fun _ _ _ h => h) (Or.inr ⟨by rfl, rfl⟩) (by assumption) ?_
    try simp only [Act.put, List.setIfInBounds_toArray, List.set_cons_zero, List.set_cons_succ]
    refine wpAnyH_take (i := 15) (oi := { dst := some 28, op := Op.call { callee := Callee.value (Operand.func 11), args := #[Operand.tmp 26, Operand.tmp 27], argTypes := #[29, 24] }, type := 9, pos := "laws_lists_wt04c.go:15", after := #[{ on := 13, ground := Ground.data }, { on := 14, ground := Ground.data }, { on := 13, ground := Ground.chain }, { on := 8, ground := Ground.guard }], guard := some (8, false) }) (v := undef) rfl (by kernel_rfl) (by kernel_rfl) (by kernel_rfl) (fun _ _ _ h => h) (Or.inr ⟨by rfl, rfl⟩) (by assumption) ?_
    try simp only [Act.put, List.setIfInBounds_toArray, List.set_cons_zero, List.set_cons_succ]
    refine wpAnyH_take (i := 16) (oi := { dst := some 29, op := Op.binOp BinOp.eql 9 (Operand.tmp 24) (Operand.tmp 28) 9, type := 4, pos := "laws_lists_wt04c.go:15", after := #[{ on := 11, ground := Ground.data }, { on := 15, ground := Ground.data }, { on := 8, ground := Ground.guard }], guard := some (8, false) }) (v := undef) rfl (by kernel_rfl) (by kernel_rfl) (by kernel_rfl) (fun _ _ _ h => h) (Or.inr ⟨by rfl, rfl⟩) (by assumption) ?_
    try simp only [Act.put, List.setIfInBounds_toArray, List.set_cons_zero, List.set_cons_succ]
    refine wpAnyH_take (i := 17) (oi := { dst := some 30, op := Op.move (Operand.tmp 29), type := 4, pos := "laws_lists_wt04c.go:15", after := #[{ on := 16, ground := Ground.data }, { on := 15, ground := Ground.chain }, { on := 8, ground := Ground.guard }], guard := some (8, false) }) (v := undef) rfl (by kernel_rfl) (by kernel_rfl) (by kernel_rfl) (fun _ _ _ h => h) (Or.inr ⟨by rfl, rfl⟩) (by assumption) ?_
    try simp only [Act.put, List.setIfInBounds_toArray, List.set_cons_zero, List.set_cons_succ]
    refine wpAnyH_take (i := 18) (oi := { dst := some 31, op := Op.call { callee := Callee.value (Operand.func 13), args := #[], argTypes := #[] }, type := 4, pos := "laws_lists_wt04c.go:15", after := #[{ on := 17, ground := Ground.chain }, { on := 17, ground := Ground.guard }], guard := some (17, true) }) (v := undef) rfl (by kernel_rfl) (by kernel_rfl) (by kernel_rfl) (fun _ _ _ h => h) (Or.inr ⟨by rfl, rfl⟩) (by assumption) ?_
    try simp only [Act.put, List.setIfInBounds_toArray, List.set_cons_zero, List.set_cons_succ]
    refine wpAnyH_take (i := 19) (oi := { dst := some 32, op := Op.pick (Operand.tmp 30) (Operand.tmp 31) (Operand.const (Value.bool false)), type := 4, pos := "laws_lists_wt04c.go:15", after := #[{ on := 17, ground := Ground.data }, { on := 18, ground := Ground.data }, { on := 8, ground := Ground.guard }], guard := some (8, false) }) (v := undef) rfl (by kernel_rfl) (by kernel_rfl) (by kernel_rfl) (fun _ _ _ h => h) (Or.inr ⟨by rfl, rfl⟩) (by assumption) ?_
    try simp only [Act.put, List.setIfInBounds_toArray, List.set_cons_zero, List.set_cons_succ]
    refine wpAnyH_take (i := 20) (oi := { dst := some 33, op := Op.pick (Operand.tmp 21) (Operand.const (Value.bool true)) (Operand.tmp 32), type := 4, pos := "laws_lists_wt04c.go:15", after := #[{ on := 8, ground := Ground.data }, { on := 19, ground := Ground.data }], guard := none }) (v := ?va6) rfl (by kernel_rfl) (by kernel_rfl) (by kernel_rfl) (fun _ _ _ h => h) (Or.inl ⟨by rfl, ?hy6⟩) (by assumption) ?re6
    case hy6 => (intro w hSw; (try dsimp only at hSw); go_simp; try with_reducible rfl)
    try simp only [Act.put, List.setIfInBounds_toArray, List.set_cons_zero, List.set_cons_succ]
    refine wpAnyH_take (i := 21) (oi := { dst := some 4, op := Op.assign (Operand.tmp 33), type := 4, pos := "laws_lists_wt04c.go:15", after := #[{ on := 20, ground := Ground.data }, { on := 18, ground := Ground.chain }, { on := 0, ground := Ground.phase }, { on := 1, ground := Ground.phase }, { on := 2, ground := Ground.phase }, { on := 3, ground := Ground.phase }, { on := 4, ground := Ground.phase }, { on := 5, ground := Ground.phase }, { on := 6, ground := Ground.phase }, { on := 7, ground := Ground.phase }, { on := 8, ground := Ground.phase }, { on := 9, ground := Ground.phase }, { on := 10, ground := Ground.phase }, { on := 11, ground := Ground.phase }, { on := 12, ground := Ground.phase }, { on := 13, ground := Ground.phase }, { on := 14, ground := Ground.phase }, { on := 15, ground := Ground.phase }, { on := 16, ground := Ground.phase }, { on := 17, ground := Ground.phase }, { on := 18, ground := Ground.phase }, { on := 19, ground := Ground.phase }, { on := 20, ground := Ground.phase }], guard := none }) (v := ?va7) rfl (by kernel_rfl) (by kernel_rfl) (by kernel_rfl) (fun _ _ _ h => h) (Or.inl ⟨by rfl, ?hy7⟩) (by assumption) ?re7
    case hy7 => (intro w hSw; (try dsimp only at hSw); go_simp; try with_reducible rfl)
    try simp only [Act.put, List.setIfInBounds_toArray, List.set_cons_zero, List.set_cons_succ]
    refine wpAnyH_done (by kernel_rfl) ?_ _
    go_wp2_with fail
    go_ret
    exact ⟨rfl, HF.out _ hbA⟩
  | true =>
  have HR := Lib.hid hr
  have HFI := Lib.hid (Fine.of_right hr)
  have hsty := fun W => styled_any st W
  unfold StyleV.arg at hsty
  have HSTY := Lib.hid hsty
  clear hsty
  cases hs : styledB st with
  | false =>
    have HS := Lib.hid hs
    clear hs hr
    go_wp2_with fail
    refine wp_region_held_drew (S := (fun w' => w'.cell? ⟨w.heap.size, 0, none⟩ = some (.int .i64 st.fmt) ∧ w'.cell? ⟨w.heap.size, 1, none⟩ = some (.string st.single) ∧ w'.cell? ⟨w.heap.size, 2, none⟩ = some (.string st.top) ∧ w'.cell? ⟨w.heap.size, 3, none⟩ = some (.string st.first) ∧ w'.cell? ⟨w.heap.size, 4, none⟩ = some (.string st.middle) ∧ w'.cell? ⟨w.heap.size, 5, none⟩ = some (.string st.vert) ∧ w'.cell? ⟨w.heap.size, 6, none⟩ = some (.string st.bottom) ∧ w'.cell? ⟨w.heap.size, 7, none⟩ = some (.string st.newline) ∧ w'.cell? ⟨w.heap.size, 8, none⟩ = some (.string st.pfx) ∧ Below w2.heap.size w2 w')) (by kernel_rfl) (HBOX.out _ hd2) (fun hHeld => ?_)
    refine wpAnyH_take (i := 0) (oi := { dst := some 13, op := Op.move (Operand.tmp 0), type := 22, pos := "laws_lists_wt04c.go:15", after := #[], guard := none }) (v := ?va8) rfl (by kernel_rfl) (by kernel_rfl) (by kernel_rfl) (fun _ _ _ h => h) (Or.inl ⟨by rfl, ?hy8⟩) (by assumption) ?re8
    case hy8 => (intro w hSw; (try dsimp only at hSw); go_simp; try with_reducible rfl)
    try simp only [Act.put, List.setIfInBounds_toArray, List.set_cons_zero, List.set_cons_succ]
    refine wpAnyH_ready (rs := [1]) (by kernel_rfl) (by simp) ?_
    refine AllReadyH.cons (o := { dst := some 14, op := Op.call { callee := Callee.value (Operand.func 8), args := #[Operand.tmp 13], argTypes := #[22] }, type := 4, pos := "laws_lists_wt04c.go:15", after := #[{ on := 0, ground := Ground.data }], guard := none }) rfl (fun K hK => ?_) AllReadyH.nil
    go_simp
    refine (right_any A n c l _ h2d).mono ?_
    rintro e w4 ⟨rfl, hb4⟩
    rw [HR.out]
    have hbA := hd2.trans hb4
    refine hK.out _ _ (HBOX.out _ hbA) (fun hHeld => ?_)
    clear hK K
    try simp only [Act.put, List.setIfInBounds_toArray, List.set_cons_zero, List.set_cons_succ]
    refine wpAnyH_take (i := 2) (oi := { dst := some 15, op := Op.unOp UnOp.not 4 (Operand.tmp 14), type := 4, pos := "laws_lists_wt04c.go:15", after := #[{ on := 1, ground := Ground.data }], guard := none }) (v := ?va9) rfl (by kernel_rfl) (by kernel_rfl) (by kernel_rfl) (fun _ _ _ h => h) (Or.inl ⟨by rfl, ?hy9⟩) (by assumption) ?re9
    case hy9 => (intro w hSw; (try dsimp only at hSw); go_simp; try with_reducible rfl)
    try simp only [Act.put, List.setIfInBounds_toArray, List.set_cons_zero, List.set_cons_succ]
    refine wpAnyH_take (i := 3) (oi := { dst := some 16, op := Op.move (Operand.tmp 15), type := 4, pos := "laws_lists_wt04c.go:15", after := #[{ on := 2, ground := Ground.data }, { on := 1, ground := Ground.chain }], guard := none }) (v := ?va10) rfl (by kernel_rfl) (by kernel_rfl) (by kernel_rfl) (fun _ _ _ h => h) (Or.inl ⟨by rfl, ?hy10⟩) (by assumption) ?re10
    case hy10 => (intro w hSw; (try dsimp only at hSw); go_simp; try with_reducible rfl)
    try simp only [Act.put, List.setIfInBounds_toArray, List.set_cons_zero, List.set_cons_succ]
    refine wpAnyH_take (i := 4) (oi := { dst := some 17, op := Op.load 24 (Operand.tmp 3), type := 24, pos := "laws_lists_wt04c.go:15", after := #[{ on := 3, ground := Ground.guard }], guard := some (3, false) }) (v := ?va11) rfl (by kernel_rfl) (by kernel_rfl) (by kernel_rfl) (fun _ _ _ h => h) (Or.inl ⟨by rfl, ?hy11⟩) (by assumption) ?re11
    case hy11 => (intro w hSw; (try dsimp only at hSw); go_simp; try with_reducible rfl)
    try simp only [Act.put, List.setIfInBounds_toArray, List.set_cons_zero, List.set_cons_succ]
    refine wpAnyH_ready (rs := [5]) (by kernel_rfl) (by simp) ?_
    refine AllReadyH.cons (o := { dst := some 18, op := Op.call { callee := Callee.value (Operand.func 9), args := #[Operand.tmp 17], argTypes := #[24] }, type := 4, pos := "laws_lists_wt04c.go:15", after := #[{ on := 4, ground := Ground.data }, { on := 3, ground := Ground.chain }, { on := 3, ground := Ground.guard }], guard := some (3, false) }) rfl (fun K hK => ?_) AllReadyH.nil
    go_simp
    refine (HSTY.out _).mono ?_
    rintro e w5 ⟨rfl, hb5⟩
    rw [HS.out]
    have hbB := hbA.trans (hb5.mono hbA.size)
    refine hK.out _ _ (HBOX.out _ hbB) (fun hHeld => ?_)
    clear hK K
    try simp only [Act.put, List.setIfInBounds_toArray, List.set_cons_zero, List.set_cons_succ]
    refine wpAnyH_take (i := 6) (oi := { dst := some 19, op := Op.unOp UnOp.not 4 (Operand.tmp 18), type := 4, pos := "laws_lists_wt04c.go:15", after := #[{ on := 5, ground := Ground.data }, { on := 3, ground := Ground.guard }], guard := some (3, false) }) (v := ?va12) rfl (by kernel_rfl) (by kernel_rfl) (by kernel_rfl) (fun _ _ _ h => h) (Or.inl ⟨by rfl, ?hy12⟩) (by assumption) ?re12
    case hy12 => (intro w hSw; (try dsimp only at hSw); go_simp; try with_reducible rfl)
    try simp only [Act.put, List.setIfInBounds_toArray, List.set_cons_zero, List.set_cons_succ]
    refine wpAnyH_take (i := 7) (oi := { dst := some 20, op := Op.pick (Operand.tmp 16) (Operand.const (Value.bool true)) (Operand.tmp 19), type := 4, pos := "laws_lists_wt04c.go:15", after := #[{ on := 3, ground := Ground.data }, { on := 6, ground := Ground.data }], guard := none }) (v := ?va13) rfl (by kernel_rfl) (by kernel_rfl) (by kernel_rfl) (fun _ _ _ h => h) (Or.inl ⟨by rfl, ?hy13⟩) (by assumption) ?re13
    case hy13 => (intro w hSw; (try dsimp only at hSw); go_simp; try with_reducible rfl)
    try simp only [Act.put, List.setIfInBounds_toArray, List.set_cons_zero, List.set_cons_succ]
    refine wpAnyH_take (i := 8) (oi := { dst := some 21, op := Op.move (Operand.tmp 20), type := 4, pos := "laws_lists_wt04c.go:15", after := #[{ on := 7, ground := Ground.data }, { on := 5, ground := Ground.chain }], guard := none }) (v := ?va14) rfl (by kernel_rfl) (by kernel_rfl) (by kernel_rfl) (fun _ _ _ h => h) (Or.inl ⟨by rfl, ?hy14⟩) (by assumption) ?re14
    case hy14 => (intro w hSw; (try dsimp only at hSw); go_simp; try with_reducible rfl)
    try simp only [Act.put, List.setIfInBounds_toArray, List.set_cons_zero, List.set_cons_succ]
    refine wpAnyH_take (i := 9) (oi := { dst := some 22, op := Op.move (Operand.tmp 0), type := 22, pos := "laws_lists_wt04c.go:15", after := #[{ on := 8, ground := Ground.guard }], guard := some (8, false) }) (v := undef) rfl (by kernel_rfl) (by kernel_rfl) (by kernel_rfl) (fun _ _ _ h => h) (Or.inr ⟨by rfl, rfl⟩) (by assumption) ?_
    try simp only [Act.put, List.setIfInBounds_toArray, List.set_cons_zero, List.set_cons_succ]
    refine wpAnyH_take (i := 10) (oi := { dst := some 23, op := Op.load 24 (Operand.tmp 3), type := 24, pos := "laws_lists_wt04c.go:15", after := #[{ on := 8, ground := Ground.guard }], guard := some (8, false) }) (v := undef) rfl (by kernel_rfl) (by kernel_rfl) (by kernel_rfl) (fun _ _ _ h => h) (Or.inr ⟨by rfl, rfl⟩) (by assumption) ?_
    try simp only [Act.put, List.setIfInBounds_toArray, List.set_cons_zero, List.set_cons_succ]
    refine wpAnyH_take (i := 11) (oi := { dst := some 24, op := Op.call { callee := Callee.value (Operand.func 10), args := #[Operand.tmp 22, Operand.tmp 23], argTypes := #[22, 24] }, type := 9, pos := "laws_lists_wt04c.go:15", after := #[{ on := 9, ground := Ground.data }, { on := 10, ground := Ground.data }, { on := 8, ground := Ground.chain }, { on := 8, ground := Ground.guard }], guard := some (8, false) }) (v := undef) rfl (by kernel_rfl) (by kernel_rfl) (by kernel_rfl) (fun _ _ _ h => h) (Or.inr ⟨by rfl, rfl⟩) (by assumption) ?_
    try simp only [Act.put, List.setIfInBounds_toArray, List.set_cons_zero, List.set_cons_succ]
    refine wpAnyH_take (i := 12) (oi := { dst := some 25, op := Op.move (Operand.tmp 0), type := 22, pos := "laws_lists_wt04c.go:15", after := #[{ on := 8, ground := Ground.guard }], guard := some (8, false) }) (v := undef) rfl (by kernel_rfl) (by kernel_rfl) (by kernel_rfl) (fun _ _ _ h => h) (Or.inr ⟨by rfl, rfl⟩) (by assumption) ?_
    try simp only [Act.put, List.setIfInBounds_toArray, List.set_cons_zero, List.set_cons_succ]
    refine wpAnyH_take (i := 13) (oi := { dst := some 26, op := Op.call { callee := Callee.value (Operand.func 12), args := #[Operand.tmp 25], argTypes := #[22] }, type := 29, pos := "laws_lists_wt04c.go:15", after := #[{ on := 12, ground := Ground.data }, { on := 11, ground := Ground.chain }, { on := 8, ground := Ground.guard }], guard := some (8, false) }) (v := undef) rfl (by kernel_rfl) (by kernel_rfl) (by kernel_rfl) (fun _ _ _ h => h) (Or.inr ⟨by rfl, rfl⟩) (by assumption) ?_
    try simp only [Act.put, List.setIfInBounds_toArray, List.set_cons_zero, List.set_cons_succ]
    refine wpAnyH_take (i := 14) (oi := { dst := some 27, op := Op.load 24 (Operand.tmp 3), type := 24, pos := "laws_lists_wt04c.go:15", after := #[{ on := 8, ground := Ground.guard }], guard := some (8, false) }) (v := undef) rfl (by kernel_rfl) (by kernel_rfl) (by kernel_rfl) (fun _ _ _ h => h) (Or.inr ⟨by rfl, rfl⟩) (by assumption) ?_
    try simp only [Act.put, List.setIfInBounds_toArray, List.set_cons_zero, List.set_cons_succ]
    refine wpAnyH_take (i := 15) (oi := { dst := some 28, op := Op.call { callee := Callee.value (Operand.func 11), args := #[Operand.tmp 26, Operand.tmp 27], argTypes := #[29, 24] }, type := 9, pos := "laws_lists_wt04c.go:15", after := #[{ on := 13, ground := Ground.data }, { on := 14, ground := Ground.data }, { on := 13, ground := Ground.chain }, { on := 8, ground := Ground.guard }], guard := some (8, false) }) (v := undef) rfl (by kernel_rfl) (by kernel_rfl) (by kernel_rfl) (fun _ _ _ h => h) (Or.inr ⟨by rfl, rfl⟩) (by assumption) ?_
    try simp only [Act.put, List.setIfInBounds_toArray, List.set_cons_zero, List.set_cons_succ]
    refine wpAnyH_take (i := 16) (oi := { dst := some 29, op := Op.binOp BinOp.eql 9 (Operand.tmp 24) (Operand.tmp 28) 9, type := 4, pos := "laws_lists_wt04c.go:15", after := #[{ on := 11, ground := Ground.data }, { on := 15, ground := Ground.data }, { on := 8, ground := Ground.guard }], guard := some (8, false) }) (v := undef) rfl (by kernel_rfl) (by kernel_rfl) (by kernel_rfl) (fun _ _ _ h => h) (Or.inr ⟨by rfl, rfl⟩) (by assumption) ?_
    try simp only [Act.put, List.setIfInBounds_toArray, List.set_cons_zero, List.set_cons_succ]
    refine wpAnyH_take (i := 17) (oi := { dst := some 30, op := Op.move (Operand.tmp 29), type := 4, pos := "laws_lists_wt04c.go:15", after := #[{ on := 16, ground := Ground.data }, { on := 15, ground := Ground.chain }, { on := 8, ground := Ground.guard }], guard := some (8, false) }) (v := undef) rfl (by kernel_rfl) (by kernel_rfl) (by kernel_rfl) (fun _ _ _ h => h) (Or.inr ⟨by rfl, rfl⟩) (by assumption) ?_
    try simp only [Act.put, List.setIfInBounds_toArray, List.set_cons_zero, List.set_cons_succ]
    refine wpAnyH_take (i := 18) (oi := { dst := some 31, op := Op.call { callee := Callee.value (Operand.func 13), args := #[], argTypes := #[] }, type := 4, pos := "laws_lists_wt04c.go:15", after := #[{ on := 17, ground := Ground.chain }, { on := 17, ground := Ground.guard }], guard := some (17, true) }) (v := undef) rfl (by kernel_rfl) (by kernel_rfl) (by kernel_rfl) (fun _ _ _ h => h) (Or.inr ⟨by rfl, rfl⟩) (by assumption) ?_
    try simp only [Act.put, List.setIfInBounds_toArray, List.set_cons_zero, List.set_cons_succ]
    refine wpAnyH_take (i := 19) (oi := { dst := some 32, op := Op.pick (Operand.tmp 30) (Operand.tmp 31) (Operand.const (Value.bool false)), type := 4, pos := "laws_lists_wt04c.go:15", after := #[{ on := 17, ground := Ground.data }, { on := 18, ground := Ground.data }, { on := 8, ground := Ground.guard }], guard := some (8, false) }) (v := undef) rfl (by kernel_rfl) (by kernel_rfl) (by kernel_rfl) (fun _ _ _ h => h) (Or.inr ⟨by rfl, rfl⟩) (by assumption) ?_
    try simp only [Act.put, List.setIfInBounds_toArray, List.set_cons_zero, List.set_cons_succ]
    refine wpAnyH_take (i := 20) (oi := { dst := some 33, op := Op.pick (Operand.tmp 21) (Operand.const (Value.bool true)) (Operand.tmp 32), type := 4, pos := "laws_lists_wt04c.go:15", after := #[{ on := 8, ground := Ground.data }, { on := 19, ground := Ground.data }], guard := none }) (v := ?va15) rfl (by kernel_rfl) (by kernel_rfl) (by kernel_rfl) (fun _ _ _ h => h) (Or.inl ⟨by rfl, ?hy15⟩) (by assumption) ?re15
    case hy15 => (intro w hSw; (try dsimp only at hSw); go_simp; try with_reducible rfl)
    try simp only [Act.put, List.setIfInBounds_toArray, List.set_cons_zero, List.set_cons_succ]
    refine wpAnyH_take (i := 21) (oi := { dst := some 4, op := Op.assign (Operand.tmp 33), type := 4, pos := "laws_lists_wt04c.go:15", after := #[{ on := 20, ground := Ground.data }, { on := 18, ground := Ground.chain }, { on := 0, ground := Ground.phase }, { on := 1, ground := Ground.phase }, { on := 2, ground := Ground.phase }, { on := 3, ground := Ground.phase }, { on := 4, ground := Ground.phase }, { on := 5, ground := Ground.phase }, { on := 6, ground := Ground.phase }, { on := 7, ground := Ground.phase }, { on := 8, ground := Ground.phase }, { on := 9, ground := Ground.phase }, { on := 10, ground := Ground.phase }, { on := 11, ground := Ground.phase }, { on := 12, ground := Ground.phase }, { on := 13, ground := Ground.phase }, { on := 14, ground := Ground.phase }, { on := 15, ground := Ground.phase }, { on := 16, ground := Ground.phase }, { on := 17, ground := Ground.phase }, { on := 18, ground := Ground.phase }, { on := 19, ground := Ground.phase }, { on := 20, ground := Ground.phase }], guard := none }) (v := ?va16) rfl (by kernel_rfl) (by kernel_rfl) (by kernel_rfl) (fun _ _ _ h => h) (Or.inl ⟨by rfl, ?hy16⟩) (by assumption) ?re16
    case hy16 => (intro w hSw; (try dsimp only at hSw); go_simp; try with_reducible rfl)
    try simp only [Act.put, List.setIfInBounds_toArray, List.set_cons_zero, List.set_cons_succ]
    refine wpAnyH_done (by kernel_rfl) ?_ _
    go_wp2_with fail
    go_ret
    exact ⟨rfl, HF.out _ hbB⟩
  | true =>
  have HS := Lib.hid hs
  have HSF := Lib.hid (styled_facts hs).1
  obtain ⟨o, ho⟩ : ∃ o, o = mkB (drawD st (played l)) := ⟨_, rfl⟩
  have HO := Lib.hid (show (⟨(drawD st (played l)).toArray⟩ : ByteArray) = o from ho.symm)
  have HO2 := Lib.hid (show mkB (drawnT st (played l)) = o by rw [ho, draws_same hr hs])
  have hdr : ∀ W, StepsAt W W.heap.size A n c l → _ := fun W hW => listRender_of A n c l st W hW HFI.out.cost (by have := HFI.out.len; omega) HFI.out.plain HFI.out.drawn HSF.out hnm
  rw [HO.out] at hdr
  unfold StyleV.arg at hdr
  have HDR := Lib.hid hdr
  have hdn : ∀ W A' n' c', ItemsAt W W.heap.size A' n' c' (played l) → _ := fun W A' n' c' hW => ltDrawn_any A' n' c' (played l) st W hW HFI.out.drawn HSF.out
  rw [HO2.out] at hdn
  unfold StyleV.arg at hdn
  have HDN := Lib.hid hdn
  have HC := Lib.hid (show cost l ≤ 1099511627776 by have := HFI.out.cost; omega)
  clear hr hs ho hdr hdn
  go_wp2_with fail
  go_region_held3 (fun w' => w'.cell? ⟨w.heap.size, 0, none⟩ = some (.int .i64 st.fmt) ∧ w'.cell? ⟨w.heap.size, 1, none⟩ = some (.string st.single) ∧ w'.cell? ⟨w.heap.size, 2, none⟩ = some (.string st.top) ∧ w'.cell? ⟨w.heap.size, 3, none⟩ = some (.string st.first) ∧ w'.cell? ⟨w.heap.size, 4, none⟩ = some (.string st.middle) ∧ w'.cell? ⟨w.heap.size, 5, none⟩ = some (.string st.vert) ∧ w'.cell? ⟨w.heap.size, 6, none⟩ = some (.string st.bottom) ∧ w'.cell? ⟨w.heap.size, 7, none⟩ = some (.string st.newline) ∧ w'.cell? ⟨w.heap.size, 8, none⟩ = some (.string st.pfx) ∧ Below w2.heap.size w2 w') (first | exact HBOX.out _ hbF | exact HBOX.out _ hbE | exact HBOX.out _ hbD | exact HBOX.out _ hbC | exact HBOX.out _ hbB | exact HBOX.out _ hbA | exact HBOX.out _ hd2 | exact HBOX.out _ (Below.refl w2.heap.size w2))
    (first
      | (go_at_call 8; refine (right_any A n c l _ h2d).mono ?_; rintro e w4 ⟨rfl, hb4⟩; rw [HR.out]; have hbA := hd2.trans hb4; have h4 := (h2.below hbA).more hbA.size)
      | (go_at_call 9; refine (HSTY.out _).mono ?_; rintro e w5 ⟨rfl, hb5⟩; rw [HS.out]; have hbB := hbA.trans (hb5.mono hbA.size); have h5 := (h2.below hbB).more hbB.size)
      | (go_at_call 10; refine (HDR.out _ h5).mono ?_; rintro e w6 ⟨rfl, hb6⟩; have hbC := hbB.trans (hb6.mono hbB.size); have h6 := (h2.below hbC).more hbC.size)
      | (go_at_call 12; refine (played_any A n c l _ h6 HC.out).mono ?_; rintro e w7 ⟨v7, rfl, hown7, hb7⟩; have hbD := hbC.trans (hb7.mono hbC.size); obtain ⟨A7, c7, rfl, h7⟩ := hown7.at_)
      | (go_at_call 11; refine (HDN.out _ _ _ _ h7).mono ?_; rintro e w8 ⟨rfl, hb8⟩; have hbE := hbD.trans (hb8.mono hbD.size))
      | (go_at_call 13; refine (alive_any _).mono ?_; rintro e w9 ⟨rfl, hb9⟩; have hbF := hbE.trans (hb9.mono hbE.size)))
  go_wp2_with fail
  go_ret
  exact ⟨rfl, HF.out _ hbF⟩
end Go.Proofs.YtccbjmmggolhnaaGreatDoor
