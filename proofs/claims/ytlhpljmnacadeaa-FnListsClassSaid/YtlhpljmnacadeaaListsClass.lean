/- Walk of impl.ListHTML, and of laws.FnListsClass: it answers true and writes nothing that was there. No condition. -/
import Derived.Test.YtlhpljmnacadeaaListHtml
import Derived.Test.YtlhpljmnacadeaaListsLength
namespace Go.Proofs.Ytlhpljmnacadeaa
open Go.RowKit

theorem played_small (l : List Step) (m : Nat) (hm : ∀ s ∈ l, s.text.size ≤ m ∧ ∀ t ∈ s.texts, t.size ≤ m) : ∀ k : Nat, (∀ x ∈ (playK l k).1, x.1.size ≤ m ∧ x.2 ≤ k) ∧ (playK l k).2 ≤ k := by
  intro k
  induction k with
  | zero => simp [playK]
  | succ k ih =>
    cases h : l[k]? with
    | none =>
      have hl : l.length ≤ k := by
        rcases Nat.lt_or_ge k l.length with h1 | h1
        · rw [List.getElem?_eq_getElem h1] at h; cases h
        · exact h1
      rw [playK_all (by omega), ← playK_all hl]
      exact ⟨fun x hx => ⟨(ih.1 x hx).1, by have := (ih.1 x hx).2; omega⟩, by omega⟩
    | some s =>
      rw [playK_step h]
      have hs := hm s (List.mem_of_getElem? h)
      generalize playK l k = st at *
      obtain ⟨i1, i2⟩ := ih
      have old : ∀ x ∈ st.1, x.1.size ≤ m ∧ x.2 ≤ k + 1 := fun x hx => ⟨(i1 x hx).1, by have := (i1 x hx).2; omega⟩
      unfold playStep
      split
      · refine ⟨fun x hx => ?_, by omega⟩
        rcases List.mem_append.1 hx with h | h
        · exact old x h
        · simp at h; subst h; exact ⟨hs.1, by show st.2 ≤ _; omega⟩
      · split
        · refine ⟨fun x hx => ?_, by omega⟩
          rcases List.mem_append.1 hx with h | h
          · exact old x h
          · obtain ⟨t, ht, rfl⟩ := List.mem_map.1 h; exact ⟨hs.2 t ht, by show st.2 ≤ _; omega⟩
        · split
          · split
            · exact ⟨old, by show st.2 + 1 ≤ _; omega⟩
            · exact ⟨old, by omega⟩
          · split
            · exact ⟨old, by show st.2 - 1 ≤ _; omega⟩
            · split
              · exact ⟨old, by show 0 ≤ _; omega⟩
              · split
                · exact ⟨fun x hx => by simp at hx, by show 0 ≤ _; omega⟩
                · exact ⟨old, by omega⟩
theorem played_html {l : List Step} (hl : l.length ≤ 2000) (hc : cost l ≤ 2000) (hm : ∀ s ∈ l, s.text.size ≤ 100000 ∧ ∀ t ∈ s.texts, t.size ≤ 100000) : htmlItems (played l) := by
  have h1 := played_small l 100000 hm l.length
  have h2 := play_size l l.length
  rw [playK_all (Nat.le_refl _)] at h1 h2
  rw [List.take_length] at h2
  exact ⟨by unfold played; omega, fun x hx => ⟨(h1.1 x hx).1, by have := (h1.1 x hx).2; omega⟩⟩
theorem plain_small : smallStyle plainStyle := ⟨by decide, by decide, by decide⟩

set_option maxRecDepth 100000 in
set_option maxHeartbeats 2000000 in
theorem setClass_any (B b : Nat) (a : Int) (s1 css : ByteArray) (sty : Value) (items : List (ByteArray × Nat)) (lv : Nat) (cls : ByteArray) (w : World) (h : ListAt w B b a s1 css sty items lv) :
    Calls Try.prog 33 #[.pointer (some ⟨b, 0, none⟩), .string cls] w fun e w' => e = .returned (.tuple #[]) ∧ ListAt w' B b a s1 cls sty items lv ∧ Below B w w' := by
  have hp := list_put h 2 (.string cls) (a' := a) (s1' := s1) (css' := cls) (sty' := sty) (lv' := lv) (fun _ => rfl)
  obtain ⟨v, hv⟩ := h.cells
  have hc2 : w.cell? ⟨b, 2, none⟩ = some (.string css) := blk_cell hv 2
  have hf2 := blk_frozen hv 2
  clear hv h
  go_enter Try.func33, Try.ntmps33
  go_wp2
  go_end0
  exact ⟨rfl, hp.1, hp.2.1⟩

set_option maxRecDepth 100000 in
set_option maxHeartbeats 2000000 in
theorem listHTML_any (A : Option Addr) (n c : Nat) (l : List Step) (cls : ByteArray) (w : World) (h : StepsAt w w.heap.size A n c l) (hC : cost l ≤ 2000) (hlen : l.length ≤ 2000) (hpl : ∀ s ∈ l, plainS s) (hm : ∀ s ∈ l, s.text.size ≤ 100000 ∧ ∀ t ∈ s.texts, t.size ≤ 100000) (hcl : cls.size ≤ 1000) :
    Calls Try.prog 20 #[.slice A n c, .string cls] w fun e w' => e = .returned (.string ⟨(htmlAll (bl (classOf cls)) (played l)).toArray⟩) ∧ Below w.heap.size w w' := by
  have HI := Lib.hid (played_html hlen hC hm)
  have HPL := Lib.hid hpl
  clear hpl hm
  cases hce : cls.toList.isEmpty with
  | true =>
    have HE := Lib.hid (show classOf cls = classOf ⟨#[]⟩ by
      have : cls = ⟨#[]⟩ := by apply bl_ext; rw [Lib.toList_data] at hce; simpa [bl] using hce
      rw [this])
    go_enter Try.func20, Try.ntmps20
    go_wp2_with fail
    refine (listOf_any A n c l _ h (by omega) (by omega) HPL.out).mono ?_
    rintro e w1 ⟨b, rfl, hla, hb1⟩
    go_wp2_with fail
    refine (renderHTML_any w.heap.size b 0 ⟨#[]⟩ ⟨#[]⟩ (.pointer none) plainStyle _ _ _ hb1.size hla (Or.inl ⟨rfl, rfl⟩) plain_small HI.out (by decide)).mono ?_
    rintro e w2 ⟨rfl, hb2⟩
    have hb3 := hb1.trans hb2
    rw [← HE.out]
    go_wp2
    go_ret
    exact ⟨rfl, hb3⟩
  | false =>
    go_enter Try.func20, Try.ntmps20
    go_wp2_with fail
    refine (listOf_any A n c l _ h (by omega) (by omega) HPL.out).mono ?_
    rintro e w1 ⟨b, rfl, hla, hb1⟩
    go_wp2_with fail
    refine (setClass_any w.heap.size b 0 ⟨#[]⟩ ⟨#[]⟩ (.pointer none) _ _ cls _ hla).mono ?_
    rintro e w2 ⟨rfl, hla2, hb2⟩
    have hb12 := hb1.trans hb2
    go_wp2_with fail
    refine (renderHTML_any w.heap.size b 0 ⟨#[]⟩ cls (.pointer none) plainStyle _ _ _ hb12.size hla2 (Or.inl ⟨rfl, rfl⟩) plain_small HI.out hcl).mono ?_
    rintro e w3 ⟨rfl, hb3⟩
    have hb4 := hb12.trans hb3
    go_wp2
    go_ret
    exact ⟨rfl, hb4⟩

theorem right_sizes {l : List Step} (h : rightB l = true) : ∀ s ∈ l, s.text.size ≤ 100000 ∧ ∀ t ∈ s.texts, t.size ≤ 100000 := by
  unfold rightB at h
  simp only [Bool.and_eq_true] at h
  have h1 := List.all_eq_true.1 h.1
  intro s hs
  have := h1 s hs
  unfold stepRightB at this
  simp only [Bool.and_eq_true] at this
  have key : ∀ t, textB t = true → t.size ≤ 100000 := fun t ht => by unfold textB at ht; simp only [Bool.and_eq_true, decide_eq_true_eq] at ht; omega
  exact ⟨key _ this.1, fun t ht => key _ (List.all_eq_true.1 this.2.2 t ht)⟩
theorem class_same : classOf ⟨#[]⟩ = classOf DEFCLASS := by unfold classOf; rw [if_pos rfl, if_neg (by decide)]

set_option maxRecDepth 100000 in
set_option maxHeartbeats 4000000 in
theorem listsClass_any (A : Option Addr) (n c : Nat) (l : List Step) (w : World) (h : StepsAt w w.heap.size A n c l) :
    Calls Try.prog 6 #[.slice A n c] w fun e w' => e = .returned (.bool true) ∧ Below w.heap.size w w' := by
  cases hf : fitStepsB l with
  | false =>
    have HF := Lib.hid hf
    clear hf
    go_enter Try.func6, Try.ntmps6
    go_wp2_with fail
    refine (fitSteps_any _ _ _ l _ h).mono ?_
    rintro e w1 ⟨rfl, hb1⟩
    rw [HF.out]
    go_wp2
    go_ret
    exact ⟨rfl, hb1⟩
  | true =>
  have HF := Lib.hid hf
  clear hf
  cases hr : rightB l with
  | false =>
    have HR := Lib.hid hr
    clear hr
    go_enter Try.func6, Try.ntmps6
    go_wp2_with fail
    refine (fitSteps_any _ _ _ l _ h).mono ?_
    rintro e w1 ⟨rfl, hb1⟩
    rw [HF.out]
    have h1 := (h.below hb1).more hb1.size
    go_wp2_with fail
    refine (right_any _ _ _ l _ h1).mono ?_
    rintro e w2 ⟨rfl, hb2⟩
    rw [HR.out]
    have hb12 := hb1.trans (hb2.mono hb1.size)
    clear hb1 hb2 h1 h
    go_wp2
    go_ret
    exact ⟨rfl, hb12⟩
  | true =>
    have hrp := right_plain hr
    have HRP := Lib.hid hrp.1
    have HRS := Lib.hid (right_sizes hr)
    have hc := hrp.2.1
    have hl80 := hrp.2.2
    have HR := Lib.hid hr
    obtain ⟨out, hout⟩ : ∃ out : ByteArray, out = ⟨(htmlAll (bl (classOf DEFCLASS)) (played l)).toArray⟩ := ⟨_, rfl⟩
    have HO := Lib.hid hout
    have HO2 := Lib.hid (show (⟨(htmlAll (bl (classOf ⟨#[]⟩)) (played l)).toArray⟩ : ByteArray) = out by rw [class_same, hout])
    clear hr hrp hout
    go_enter Try.func6, Try.ntmps6
    go_wp2_with fail
    refine (fitSteps_any _ _ _ l _ h).mono ?_
    rintro e w1 ⟨rfl, hb1⟩
    rw [HF.out]
    have h1 := (h.below hb1).more hb1.size
    clear h
    go_wp2_with fail
    refine (right_any _ _ _ l _ h1).mono ?_
    rintro e w2 ⟨rfl, hb2⟩
    rw [HR.out]
    have hb12 := hb1.trans (hb2.mono hb1.size)
    have h2 := (h1.below hb2).more hb2.size
    clear hb1 hb2 h1
    go_wp2_with fail
    refine (listHTML_any _ _ _ l ⟨#[]⟩ _ h2 (by omega) (by omega) HRP.out HRS.out (by decide)).mono ?_
    rintro e w3 ⟨rfl, hb3⟩
    rw [HO2.out]
    have hb13 := hb12.trans (hb3.mono hb12.size)
    have h3 := (h2.below hb3).more hb3.size
    clear hb12 hb3 h2
    go_wp2_with fail
    refine (listHTML_any _ _ _ l DEFCLASS _ h3 (by omega) (by omega) HRP.out HRS.out (by decide)).mono ?_
    rintro e w4 ⟨rfl, hb4⟩
    rw [← HO.out]
    have hb14 := hb13.trans (hb4.mono hb13.size)
    have hb15 := hb14.alloc hb14.size (.cells #[.int .i64 0, .string ⟨#[97]⟩, .slice none 0 0] 38)
    have hone := one_at w4 ⟨#[97]⟩
    clear hb13 hb4 h3 hb14
    go_wp2_with fail
    refine (listHTML_any _ _ _ (oneStep ⟨#[97]⟩) ⟨#[]⟩ _ hone (by decide) (by decide) one_plain (by intro s hs; simp [oneStep] at hs; subst hs; exact ⟨by decide, fun t ht => by simp at ht⟩) (by decide)).mono ?_
    rintro e w5 ⟨rfl, hb5⟩
    have hb16 := hb15.trans (hb5.mono hb15.size)
    obtain ⟨o2, ho2⟩ : ∃ o2 : ByteArray, o2 = ⟨(htmlAll (bl (classOf ⟨#[]⟩)) (played (oneStep ⟨#[97]⟩))).toArray⟩ := ⟨_, rfl⟩
    have hne : o2.toList.isEmpty = false := by
      rw [ho2, Lib.toList_data]
      show (htmlAll _ [(⟨#[97]⟩, 0)]).isEmpty = false
      unfold htmlAll openH
      simp
    rw [← ho2]
    clear hb15 hb5 hone ho2
    go_wp2
    go_ret
    exact ⟨rfl, hb16⟩
end Go.Proofs.Ytlhpljmnacadeaa
