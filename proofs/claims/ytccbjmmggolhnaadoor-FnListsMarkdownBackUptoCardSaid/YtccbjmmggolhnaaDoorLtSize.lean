/- Plain laws: how long what some steps draw is. Condition: the steps are right, the style is one that the statements speak of. -/
import Derived.Test.YtccbjmmggolhnaaDoorLt
import Derived.Test.YtccbjmmggolhnaaDoorListsUn
namespace Go.Proofs.YtccbjmmggolhnaaDoor
open Go.RowKit
set_option linter.unusedVariables false

theorem draws_same {l : List Step} {st : StyleV} (hr : rightB l = true) (hs : styledB st = true) : drawnT st (played l) = drawD st (played l) := by
  obtain ⟨_, h2, h3, _⟩ := styled_facts hs
  exact drawn_eq h2 h3 (right_simple hr)
theorem right_tight {l : List Step} (h : rightB l = true) : (played l).length ≤ 880 ∧ ∀ x ∈ played l, x.1.size ≤ 200 ∧ x.2 ≤ 80 := by
  obtain ⟨_, h2, h3⟩ := right_plain h
  have hm : ∀ s ∈ l, s.text.size ≤ 200 ∧ ∀ t ∈ s.texts, t.size ≤ 200 := by
    unfold rightB at h
    simp only [Bool.and_eq_true] at h
    intro s hs
    have h1 := List.all_eq_true.1 h.1 s hs
    unfold stepRightB at h1
    simp only [Bool.and_eq_true] at h1
    have key : ∀ t, textB t = true → t.size ≤ 200 := fun t ht => by unfold textB at ht; simp only [Bool.and_eq_true, decide_eq_true_eq] at ht; exact ht.1
    exact ⟨key _ h1.1, fun t ht => key _ (List.all_eq_true.1 h1.2.2 t ht)⟩
  have p1 := played_small l 200 hm l.length
  have p2 := play_size l l.length
  rw [playK_all (Nat.le_refl _)] at p1 p2
  rw [List.take_length] at p2
  exact ⟨by unfold played; omega, fun x hx => ⟨(p1.1 x hx).1, by have := (p1.1 x hx).2; omega⟩⟩
theorem lines_tight {t : ByteArray} (h : t.size ≤ 200) : (linesL (runes t)).length ≤ 202 ∧ ∀ x ∈ linesL (runes t), x.length ≤ 800 := by
  obtain ⟨a, b⟩ := fold_bound (runes t) [[]] 0 (by intro x hx; simp at hx; subst hx; simp)
  have := runes_length t
  exact ⟨by simp at a; unfold linesL; omega, fun x hx => by have := b x hx; omega⟩
theorem joinK_tight {nl : List UInt8} (hn : nl.length ≤ 20) : ∀ (l : List (List UInt8)) (k : Nat), (∀ x ∈ l, x.length ≤ 800) → (mapCat (fun k x => (if 0 < k then nl else []) ++ x) k l).length ≤ 820 * l.length
  | [], _, _ => by simp [mapCat]
  | x :: l, k, h => by
    have ih := joinK_tight hn l (k + 1) (fun y hy => h y (by simp [hy]))
    have h1 := h x (by simp)
    rw [mapCat, List.length_append, List.length_append, List.length_cons]
    have h2 : (if 0 < k then nl else []).length ≤ 20 := by split <;> first | omega | (simp; done) | (simp; omega)
    omega
theorem sep_len (i : Nat) (M : Nat) : ∀ (L : List (List UInt8)) (k : Nat), (∀ x ∈ L, x.length ≤ M) → (mapCat (sepT i) k L).length ≤ (M + 1) * L.length
  | [], _, _ => by simp [mapCat]
  | x :: L, k, h => by
    have ih := sep_len i M L (k + 1) (fun y hy => h y (by simp [hy]))
    have h1 := h x (by simp)
    rw [mapCat, List.length_append, List.length_cons, Nat.mul_add, Nat.mul_one]
    have h2 : (sepT i k x).length ≤ M + 1 := by unfold sepT; rw [List.length_append]; split <;> (simp; try omega)
    omega
theorem line_tight {st : StyleV} {items : List (ByteArray × Nat)} {i lv k : Nat} {t : List UInt8} (hst : styleSmall st) (hl : lv ≤ 80) : (lineT st items i lv k t).length ≤ 3300 + t.length := by
  have ha := ahead_size (st := st) hst.2.2.2.2.2.1 hst.2.2.2.2.2.2.2.2 items i lv
  have h2 := bulletT_size hst i (moreB lv (items.drop (i + 1))) (firstB items i lv)
  have h3 := link_size (items := items) (i := i) (lv := lv) hst.2.2.2.2.2.1
  unfold lineT
  rw [← bl_size] at h2
  split
  · simp only [List.length_append, List.length_cons, List.length_nil]; omega
  · simp only [List.length_append]; omega
theorem item_tight {st : StyleV} {items : List (ByteArray × Nat)} {i : Nat} {x : ByteArray × Nat} (hst : styleSmall st) (hx : x.1.size ≤ 200) (hl : x.2 ≤ 80) : (mapCat (sepT i) 0 (linesT st items i x)).length ≤ 900000 ∧ (linesT st items i x).length ≤ 202 := by
  obtain ⟨a, b⟩ := lines_tight hx
  have hn : (bl st.newline).length ≤ 20 := by rw [bl_size]; exact hst.2.2.2.2.2.2.2.1
  by_cases hnl : bl st.newline ≠ [10]
  · have ht : textsT st x.1 = [joinT (bl st.newline) (linesL (runes x.1))] := by unfold textsT; rw [if_pos hnl]
    have hj := joinK_tight hn (linesL (runes x.1)) 0 b
    have hlen : (linesT st items i x).length = 1 := by unfold linesT; rw [mapK_length, ht]; rfl
    have hb : ∀ y ∈ linesT st items i x, y.length ≤ 170000 := by
      intro y hy
      unfold linesT at hy
      obtain ⟨k, t, hm, rfl⟩ := mapK_mem hy
      rw [ht] at hm
      simp only [List.mem_singleton] at hm
      subst hm
      have := line_tight (items := items) (i := i) (k := k) (t := joinT (bl st.newline) (linesL (runes x.1))) hst hl
      unfold joinT at this ⊢
      omega
    have := sep_len i 170000 _ 0 hb
    rw [hlen] at this
    exact ⟨by omega, by omega⟩
  · have ht : textsT st x.1 = linesL (runes x.1) := by unfold textsT; rw [if_neg hnl]
    have hlen : (linesT st items i x).length ≤ 202 := by unfold linesT; rw [mapK_length, ht]; exact a
    have hb : ∀ y ∈ linesT st items i x, y.length ≤ 4100 := by
      intro y hy
      unfold linesT at hy
      obtain ⟨k, t, hm, rfl⟩ := mapK_mem hy
      rw [ht] at hm
      have h1 := b t hm
      have := line_tight (items := items) (i := i) (k := k) (t := t) hst hl
      omega
    have := sep_len i 4100 _ 0 hb
    exact ⟨by omega, hlen⟩
theorem drawn_size {st : StyleV} {l : List Step} (hst : styleSmall st) (hr : rightB l = true) : (drawnT st (played l)).length ≤ 1000000000 := by
  obtain ⟨h1, h2⟩ := right_tight hr
  have key : ∀ (q : List (ByteArray × Nat)) (k : Nat), (∀ x ∈ q, x.1.size ≤ 200 ∧ x.2 ≤ 80) → (mapCat (fun i x => mapCat (sepT i) 0 (linesT st (played l) i x)) k q).length ≤ 900000 * q.length := by
    intro q
    induction q with
    | nil => intro k _; simp [mapCat]
    | cons x q ih =>
      intro k h
      have a := ih (k + 1) (fun y hy => h y (by simp [hy]))
      have b := (item_tight (items := played l) (i := k) hst (h x (by simp)).1 (h x (by simp)).2).1
      rw [mapCat, List.length_append, List.length_cons]
      omega
  have := key (played l) 0 h2
  unfold drawnT
  omega
theorem all_tight {st : StyleV} {l : List Step} (hst : styleSmall st) (hr : rightB l = true) : (allT st (played l)).length ≤ 177760 := by
  obtain ⟨h1, h2⟩ := right_tight hr
  have key : ∀ (q : List (ByteArray × Nat)) (k : Nat), (∀ x ∈ q, x.1.size ≤ 200 ∧ x.2 ≤ 80) → ((mapK (linesT st (played l)) k q).flatten).length ≤ 202 * q.length := by
    intro q
    induction q with
    | nil => intro k _; simp [mapK]
    | cons x q ih =>
      intro k h
      have a := ih (k + 1) (fun y hy => h y (by simp [hy]))
      have b := (item_tight (items := played l) (i := k) hst (h x (by simp)).1 (h x (by simp)).2).2
      rw [mapK, List.flatten_cons, List.length_append, List.length_cons]
      omega
  have := key (played l) 0 h2
  unfold allT
  omega
end Go.Proofs.YtccbjmmggolhnaaDoor
