/- Walk of impl.ListHTML, and of laws.FnListsClass: it answers true and writes nothing that was there. No condition. -/
import Derived.Test.YtdkpacgbniclhaaGreatDoorListHtml
import Derived.Test.YtdkpacgbniclhaaGreatDoorListsLength
namespace Go.Proofs.YtdkpacgbniclhaaGreatDoor
open Go.RowKit

theorem played_small (l : List Step) (m : Nat) (hm : ∀ s ∈ l, s.text.size ≤ m ∧ ∀ t ∈ s.texts, t.size ≤ m) : ∀ k : Nat, (∀ x ∈ (playK l k).1, x.1.size ≤ m ∧ x.2 ≤ k) ∧ (playK l k).2 ≤ k := by
  intro k
  induction k with
  | zero => simp [playK]
  | succ k ih =>
    cases h : l[k]? with
    | none =>
      have hl : l.length ≤ k := by
        rcases Nat.lt_or_ge k l.length with h1 | h1
        · rw [List.getElem?_eq_getElem h1] at h; cases h
        · exact h1
      rw [playK_all (by omega), ← playK_all hl]
      exact ⟨fun x hx => ⟨(ih.1 x hx).1, by have := (ih.1 x hx).2; omega⟩, by omega⟩
    | some s =>
      rw [playK_step h]
      have hs := hm s (List.mem_of_getElem? h)
      generalize playK l k = st at *
      obtain ⟨i1, i2⟩ := ih
      have old : ∀ x ∈ st.1, x.1.size ≤ m ∧ x.2 ≤ k + 1 := fun x hx => ⟨(i1 x hx).1, by have := (i1 x hx).2; omega⟩
      unfold playStep
      split
      · refine ⟨fun x hx => ?_, by omega⟩
        rcases List.mem_append.1 hx with h | h
        · exact old x h
        · simp at h; subst h; exact ⟨hs.1, by show st.2 ≤ _; omega⟩
      · split
        · refine ⟨fun x hx => ?_, by omega⟩
          rcases List.mem_append.1 hx with h | h
          · exact old x h
          · obtain ⟨t, ht, rfl⟩ := List.mem_map.1 h; exact ⟨hs.2 t ht, by show st.2 ≤ _; omega⟩
        · split
          · split
            · exact ⟨old, by show st.2 + 1 ≤ _; omega⟩
            · exact ⟨old, by omega⟩
          · split
            · exact ⟨old, by show st.2 - 1 ≤ _; omega⟩
            · split
              · exact ⟨old, by show 0 ≤ _; omega⟩
              · split
                · exact ⟨fun x hx => by simp at hx, by show 0 ≤ _; omega⟩
                · exact ⟨old, by omega⟩
theorem played_html {l : List Step} (hl : l.length ≤ 2000) (hc : cost l ≤ 2000) (hm : ∀ s ∈ l, s.text.size ≤ 100000 ∧ ∀ t ∈ s.texts, t.size ≤ 100000) : htmlItems (played l) := by
  have h1 := played_small l 100000 hm l.length
  have h2 := play_size l l.length
  rw [playK_all (Nat.le_refl _)] at h1 h2
  rw [List.take_length] at h2
  exact ⟨by unfold played; omega, fun x hx => ⟨(h1.1 x hx).1, by have := (h1.1 x hx).2; omega⟩⟩
theorem plain_small : smallStyle plainStyle := ⟨by decide, by decide, by decide⟩

set_option maxRecDepth 100000 in
set_option maxHeartbeats 2000000 in
theorem setClass_any (B b : Nat) (a : Int) (s1 css : ByteArray) (sty : Value) (items : List (ByteArray × Nat)) (lv : Nat) (cls : ByteArray) (w : World) (h : ListAt w B b a s1 css sty items lv) :
    Calls Tryz.prog 47 #[.pointer (some ⟨b, 0, none⟩), .string cls] w fun e w' => e = .returned (.tuple #[]) ∧ ListAt w' B b a s1 cls sty items lv ∧ Below B w w' := by
  have hp := list_put h 2 (.string cls) (a' := a) (s1' := s1) (css' := cls) (sty' := sty) (lv' := lv) (fun _ => rfl)
  obtain ⟨v, hv⟩ := h.cells
  have hc2 : w.cell? ⟨b, 2, none⟩ = some (.string css) := blk_cell hv 2
  have hf2 := blk_frozen hv 2
  clear hv h
  go_enter Tryz.func47, Tryz.ntmps47
  go_wp2
  go_end0
  exact ⟨rfl, hp.1, hp.2.1⟩

set_option maxRecDepth 100000 in
set_option maxHeartbeats 2000000 in
theorem listHTML_any (A : Option Addr) (n c : Nat) (l : List Step) (cls : ByteArray) (w : World) (h : StepsAt w w.heap.size A n c l) (hC : cost l ≤ 2000) (hlen : l.length ≤ 2000) (hpl : ∀ s ∈ l, plainS s) (hm : ∀ s ∈ l, s.text.size ≤ 100000 ∧ ∀ t ∈ s.texts, t.size ≤ 100000) (hcl : cls.size ≤ 1000) :
    Calls Tryz.prog 21 #[.slice A n c, .string cls] w fun e w' => e = .returned (.string ⟨(htmlAll (bl (classOf cls)) (played l)).toArray⟩) ∧ Below w.heap.size w w' := by
  have HI := Lib.hid (played_html hlen hC hm)
  have HPL := Lib.hid hpl
  clear hpl hm
  cases hce : cls.toList.isEmpty with
  | true =>
    have HE := Lib.hid (show classOf cls = classOf ⟨#[]⟩ by
      have : cls = ⟨#[]⟩ := by apply bl_ext; rw [Lib.toList_data] at hce; simpa [bl] using hce
      rw [this])
    go_enter Tryz.func21, Tryz.ntmps21
    go_wp2_with fail
    refine (listOf_any A n c l _ h (by omega) (by omega) HPL.out).mono ?_
    rintro e w1 ⟨b, rfl, hla, hb1⟩
    go_wp2_with fail
    refine (renderHTML_any w.heap.size b 0 ⟨#[]⟩ ⟨#[]⟩ (.pointer none) plainStyle _ _ _ hb1.size hla (Or.inl ⟨rfl, rfl⟩) plain_small HI.out (by decide)).mono ?_
    rintro e w2 ⟨rfl, hb2⟩
    have hb3 := hb1.trans hb2
    rw [← HE.out]
    go_wp2
    go_ret
    exact ⟨rfl, hb3⟩
  | false =>
    go_enter Tryz.func21, Tryz.ntmps21
    go_wp2_with fail
    refine (listOf_any A n c l _ h (by omega) (by omega) HPL.out).mono ?_
    rintro e w1 ⟨b, rfl, hla, hb1⟩
    go_wp2_with fail
    refine (setClass_any w.heap.size b 0 ⟨#[]⟩ ⟨#[]⟩ (.pointer none) _ _ cls _ hla).mono ?_
    rintro e w2 ⟨rfl, hla2, hb2⟩
    have hb12 := hb1.trans hb2
    go_wp2_with fail
    refine (renderHTML_any w.heap.size b 0 ⟨#[]⟩ cls (.pointer none) plainStyle _ _ _ hb12.size hla2 (Or.inl ⟨rfl, rfl⟩) plain_small HI.out hcl).mono ?_
    rintro e w3 ⟨rfl, hb3⟩
    have hb4 := hb12.trans hb3
    go_wp2
    go_ret
    exact ⟨rfl, hb4⟩

theorem right_sizes {l : List Step} (h : rightB l = true) : ∀ s ∈ l, s.text.size ≤ 100000 ∧ ∀ t ∈ s.texts, t.size ≤ 100000 := by
  unfold rightB at h
  simp only [Bool.and_eq_true] at h
  have h1 := List.all_eq_true.1 h.1
  intro s hs
  have := h1 s hs
  unfold stepRightB at this
  simp only [Bool.and_eq_true] at this
  have key : ∀ t, textB t = true → t.size ≤ 100000 := fun t ht => by unfold textB at ht; simp only [Bool.and_eq_true, decide_eq_true_eq] at ht; omega
  exact ⟨key _ this.1, fun t ht => key _ (List.all_eq_true.1 this.2.2 t ht)⟩
theorem class_same : classOf ⟨#[]⟩ = classOf DEFCLASS := by unfold classOf; rw [if_pos rfl, if_neg (by decide)]

end Go.Proofs.YtdkpacgbniclhaaGreatDoor
