/- The parser in memory; walks of its Reset, InSequence, IsOpen, isEscapeStopRune, Consume. Conditions: as each says. -/
import Derived.Test.YtlclmpiocbkabaaGreatDoorParser3
import Derived.Deep.Cut
import Derived.Deep.DeepCutAuto
namespace Go.Proofs.YtlclmpiocbkabaaGreatDoor
open Go.RowKit
set_option linter.unusedVariables false

/-- The parser in block p: what it knows. -/
structure PAt (w : World) (B p : Nat) (s : PS) : Prop where
  base : B ≤ p
  ex : ∃ vm vb, w.heap[p]? = some (.cells (pcells vm s.inE s.kind vb) 52 (0, 0)) ∧ CodesV w B vm s.codes ∧ OwnBytes w B 5 vb s.buf
theorem PAt.lt {w : World} {B p : Nat} {s : PS} (h : PAt w B p s) : p < w.heap.size := by
  obtain ⟨vm, vb, hb, _⟩ := h.ex
  exact (Array.getElem?_eq_some_iff.1 hb).1
theorem bytes_ne {w : World} {B p : Nat} {v : Value} {l : List UInt8} {cs : Array Value} (h : OwnBytes w B 5 v l) (hb : w.heap[p]? = some (.cells cs 52 (0, 0))) : some p ≠ v.ownBlock := by
  rcases h.2 with ⟨rfl, _⟩ | ⟨g, cap, cur, rfl, _, hh, _⟩
  · simp [Value.ownBlock]
  · intro he
    have he2 : some p = some g := he
    injection he2 with he2
    subst he2
    rw [hb] at hh
    injection hh with hh
    injection hh with _ h2
    revert h2; decide
/-- A cell of the parser's block is written. -/
theorem CodesV.set {w : World} {B p j : Nat} {v u : Value} {l : List Int} {cs : Array Value} (h : CodesV w B v l) (hb : w.heap[p]? = some (.cells cs 52 (0, 0))) : CodesV (w.setCell ⟨p, j, none⟩ u) B v l := by
  rcases h with h | ⟨b, h1, h2, h3⟩
  · exact Or.inl h
  · refine Or.inr ⟨b, h1, h2, h3.same (heap_setCell_other _ _ _ _ ?_)⟩
    rintro rfl
    obtain ⟨es, clock, hq, _⟩ := h3
    rw [hb] at hq
    cases hq
theorem bytes_set {w : World} {B p j : Nat} {v u : Value} {l : List UInt8} {cs : Array Value} (h : OwnBytes w B 5 v l) (hb : w.heap[p]? = some (.cells cs 52 (0, 0))) : OwnBytes (w.setCell ⟨p, j, none⟩ u) B 5 v l :=
  ownsRow_setCell_other h (a := ⟨p, j, none⟩) (fun e => bytes_ne h hb e.symm) _
theorem kept_set {w : World} {p j : Nat} {u : Value} : Kept p w (w.setCell ⟨p, j, none⟩ u) := fun k o h1 h2 _ _ => (heap_setCell_other _ ⟨p, j, none⟩ _ _ h2).trans h1
/-- A row of bytes is emptied. -/
theorem bytes_none {w : World} {B n c : Nat} {A : Option Addr} {l : List UInt8} (h : OwnBytes w B 5 (.slice A n c) l) : OwnBytes w B 5 (.slice A 0 c) [] := by
  rcases h.2 with ⟨hv, _⟩ | ⟨g, cap, cur, hv, hg, hh, h1, h2, h3, h4⟩
  · injection hv with e1 e2 e3
    subst e1 e3
    exact World.ownsRow_nil _ _ _ _
  · injection hv with e1 e2 e3
    subst e1 e3
    exact ⟨rfl, Or.inr ⟨g, c, cur, rfl, hg, hh, Nat.zero_le _, h2, h3, by simp [Lib.byteCells]⟩⟩
theorem bytes_shape {w : World} {B : Nat} {v : Value} {l : List UInt8} (h : OwnBytes w B 5 v l) : ∃ A c, v = .slice A l.length c := by
  rcases h.2 with ⟨rfl, h0⟩ | ⟨g, cap, cur, rfl, _⟩
  · exact ⟨none, 0, by rw [h0]⟩
  · exact ⟨_, _, rfl⟩

set_option maxRecDepth 100000 in
set_option maxHeartbeats 2000000 in
theorem inSeq_any (B p : Nat) (s : PS) (w : World) (h : PAt w B p s) :
    Calls Tryz.prog 26 #[.pointer (some ⟨p, 0, none⟩)] w fun e w' => e = .returned (.bool s.inE) ∧ w = w' := by
  obtain ⟨vm, vb, hb, _⟩ := h.ex
  have hc1 : w.cell? ⟨p, 1, none⟩ = some (.bool s.inE) := cell_of_row w p 1 _ _ _ hb
  clear hb
  go_enter Tryz.func26, Tryz.ntmps26
  go_wp2
  go_ret
  exact ⟨rfl, rfl⟩

set_option maxRecDepth 100000 in
set_option maxHeartbeats 2000000 in
theorem isOpen_any (B p : Nat) (s : PS) (w : World) (h : PAt w B p s) :
    Calls Tryz.prog 27 #[.pointer (some ⟨p, 0, none⟩)] w fun e w' => e = .returned (.bool (decide (0 < s.codes.length))) ∧ w = w' := by
  obtain ⟨vm, vb, hb, hv, _⟩ := h.ex
  rcases hv with ⟨rfl, hl⟩ | ⟨b, rfl, _, hs⟩
  · have hc0 : w.cell? ⟨p, 0, none⟩ = some (.map none) := cell_of_row w p 0 _ _ _ hb
    have hln := fun ty => Maps.len_nil (w := w) (P := Tryz.prog) mapUnder ty
    clear hb
    go_enter Tryz.func27, Tryz.ntmps27
    go_wp2
    go_ret
    exact ⟨ret_bool (by rw [hl]; rfl), rfl⟩
  · have hc0 : w.cell? ⟨p, 0, none⟩ = some (.map (some b)) := cell_of_row w p 0 _ _ _ hb
    clear hb
    go_enter Tryz.func27, Tryz.ntmps27
    go_wp2_with (at_len; refine wpList_len_codes rfl _ _ rfl mapUnder b _ rfl hs ?_)
    go_ret
    exact ⟨ret_bool (by simp), rfl⟩

/-- Reset: what the parser is behind it. -/
def Pdone (w w' : World) (B p : Nat) (s : PS) : Prop := PAt w' B p s ∧ Below B w w' ∧ Kept p w w'
set_option maxRecDepth 100000 in
set_option maxHeartbeats 2000000 in
theorem preset_any (B p : Nat) (s : PS) (w : World) (h : PAt w B p s) :
    Calls Tryz.prog 25 #[.pointer (some ⟨p, 0, none⟩)] w fun e w' => e = .returned (.tuple #[]) ∧ Pdone w w' B p s.reset := by
  obtain ⟨vm, vb, hb, hv, ho⟩ := h.ex
  have hB := h.base
  have hp := h.lt
  have hf1 := frozen_of_row w p 1 _ _ hb
  have hf2 := frozen_of_row w p 2 _ _ hb
  have hf3 := frozen_of_row w p 3 _ _ hb
  have hc1 : w.cell? ⟨p, 1, none⟩ = some (.bool s.inE) := cell_of_row w p 1 _ _ _ hb
  have hc2 : w.cell? ⟨p, 2, none⟩ = some (.int .i64 s.kind) := cell_of_row w p 2 _ _ _ hb
  have hc3 : w.cell? ⟨p, 3, none⟩ = some vb := cell_of_row w p 3 _ _ _ hb
  have fin : ∀ v, OwnBytes w B 5 v [] → Pdone w (((w.setCell ⟨p, 1, none⟩ (.bool false)).setCell ⟨p, 2, none⟩ (.int .i64 0)).setCell ⟨p, 3, none⟩ v) B p s.reset := by
    intro v hv0
    have b1 : (w.setCell ⟨p, 1, none⟩ (.bool false)).heap[p]? = some (.cells (pcells vm false s.kind vb) 52 (0, 0)) := heap_setCell_same w p 1 _ _ _ hb
    have b2 : ((w.setCell ⟨p, 1, none⟩ (.bool false)).setCell ⟨p, 2, none⟩ (.int .i64 0)).heap[p]? = some (.cells (pcells vm false 0 vb) 52 (0, 0)) := heap_setCell_same _ p 2 _ _ _ b1
    have b3 : (((w.setCell ⟨p, 1, none⟩ (.bool false)).setCell ⟨p, 2, none⟩ (.int .i64 0)).setCell ⟨p, 3, none⟩ v).heap[p]? = some (.cells (pcells vm false 0 v) 52 (0, 0)) := heap_setCell_same _ p 3 _ _ _ b2
    exact ⟨⟨hB, vm, v, b3, ((hv.set hb).set b1).set b2, bytes_set (bytes_set (bytes_set hv0 hb) b1) b2⟩, (((Below.refl B w).setCell hB _).setCell hB _).setCell hB _, (kept_set.trans kept_set).trans kept_set⟩
  have HF := Lib.hid fin
  rcases ho.2 with ⟨hvb, h0⟩ | ⟨g, cap, cur, hvb, hg, hh, hn, hm, _⟩
  · subst hvb
    have h1 : OwnBytes w B 5 (.slice none 0 0) [] := World.ownsRow_nil _ _ _ _
    have HX := Lib.hid (fin _ h1)
    clear hb hv ho fin HF h
    go_enter Tryz.func25, Tryz.ntmps25
    go_wp2
    go_end0
    exact ⟨rfl, HX.out⟩
  · subst hvb
    obtain ⟨n, hnn⟩ : ∃ n, n = s.buf.length := ⟨_, rfl⟩
    rw [← hnn] at hc3
    have HX := Lib.hid (fin _ (bytes_none ho))
    have hcap : n ≤ cap := by rw [hnn]; exact hn
    clear hb hv ho fin HF h hn hnn
    go_enter Tryz.func25, Tryz.ntmps25
    go_wp2
    go_end0
    exact ⟨rfl, HX.out⟩
end Go.Proofs.YtlclmpiocbkabaaGreatDoor
