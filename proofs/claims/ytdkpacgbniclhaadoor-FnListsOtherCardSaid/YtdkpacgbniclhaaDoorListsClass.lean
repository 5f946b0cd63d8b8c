/- Walk of impl.ListHTML, and of laws.FnListsClass: it answers true and writes nothing that was there. No condition. -/
import Derived.Test.YtdkpacgbniclhaaDoorListHtml
import Derived.Test.YtdkpacgbniclhaaDoorListsLength
namespace Go.Proofs.YtdkpacgbniclhaaDoor
open Go.RowKit

theorem played_small (l : List Step) (m : Nat) (hm : ∀ s ∈ l, s.text.size ≤ m ∧ ∀ t ∈ s.texts, t.size ≤ m) : ∀ k : Nat, (∀ x ∈ (playK l k).1, x.1.size ≤ m ∧ x.2 ≤ k) ∧ (playK l k).2 ≤ k := by
  intro k
  induction k with
  | zero => simp [playK]
  | succ k ih =>
    cases h : l[k]? with
    | none =>
      have hl : l.length ≤ k := by
        rcases Nat.lt_or_ge k l.length with h1 | h1
        · rw [List.getElem?_eq_getElem h1] at h; cases h
        · exact h1
      rw [playK_all (by omega), ← playK_all hl]
      exact ⟨fun x hx => ⟨(ih.1 x hx).1, by have := (ih.1 x hx).2; omega⟩, by omega⟩
    | some s =>
      rw [playK_step h]
      have hs := hm s (List.mem_of_getElem? h)
      generalize playK l k = st at *
      obtain ⟨i1, i2⟩ := ih
      have old : ∀ x ∈ st.1, x.1.size ≤ m ∧ x.2 ≤ k + 1 := fun x hx => ⟨(i1 x hx).1, by have := (i1 x hx).2; omega⟩
      unfold playStep
      split
      · refine ⟨fun x hx => ?_, by omega⟩
        rcases List.mem_append.1 hx with h | h
        · exact old x h
        · simp at h; subst h; exact ⟨hs.1, by show st.2 ≤ _; omega⟩
      · split
        · refine ⟨fun x hx => ?_, by omega⟩
          rcases List.mem_append.1 hx with h | h
          · exact old x h
          · obtain ⟨t, ht, rfl⟩ := List.mem_map.1 h; exact ⟨hs.2 t ht, by show st.2 ≤ _; omega⟩
        · split
          · split
            · exact ⟨old, by show st.2 + 1 ≤ _; omega⟩
            · exact ⟨old, by omega⟩
          · split
            · exact ⟨old, by show st.2 - 1 ≤ _; omega⟩
            · split
              · exact ⟨old, by show 0 ≤ _; omega⟩
              · split
                · exact ⟨fun x hx => by simp at hx, by show 0 ≤ _; omega⟩
                · exact ⟨old, by omega⟩
theorem played_html {l : List Step} (hl : l.length ≤ 2000) (hc : cost l ≤ 2000) (hm : ∀ s ∈ l, s.text.size ≤ 100000 ∧ ∀ t ∈ s.texts, t.size ≤ 100000) : htmlItems (played l) := by
  have h1 := played_small l 100000 hm l.length
  have h2 := play_size l l.length
  rw [playK_all (Nat.le_refl _)] at h1 h2
  rw [List.take_length] at h2
  exact ⟨by unfold played; omega, fun x hx => ⟨(h1.1 x hx).1, by have := (h1.1 x hx).2; omega⟩⟩
theorem plain_small : smallStyle plainStyle := ⟨by decide, by decide, by decide⟩

theorem right_sizes {l : List Step} (h : rightB l = true) : ∀ s ∈ l, s.text.size ≤ 100000 ∧ ∀ t ∈ s.texts, t.size ≤ 100000 := by
  unfold rightB at h
  simp only [Bool.and_eq_true] at h
  have h1 := List.all_eq_true.1 h.1
  intro s hs
  have := h1 s hs
  unfold stepRightB at this
  simp only [Bool.and_eq_true] at this
  have key : ∀ t, textB t = true → t.size ≤ 100000 := fun t ht => by unfold textB at ht; simp only [Bool.and_eq_true, decide_eq_true_eq] at ht; omega
  exact ⟨key _ this.1, fun t ht => key _ (List.all_eq_true.1 this.2.2 t ht)⟩
theorem class_same : classOf ⟨#[]⟩ = classOf DEFCLASS := by unfold classOf; rw [if_pos rfl, if_neg (by decide)]

end Go.Proofs.YtdkpacgbniclhaaDoor
