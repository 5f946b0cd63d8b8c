/- Walk of spec.LtPlayed: which items some steps make. Condition: the steps have not more items than the bound that is named. -/
import Derived.Test.YtdkpacgbniclhaaDoorSteps
import Derived.Test.YtdkpacgbniclhaaDoorPrint
namespace Go.Proofs.YtdkpacgbniclhaaDoor
open Go.RowKit

/-- What a step makes of the items (text, level) and the level. -/
def lastLevel (out : List (ByteArray × Nat)) : Nat := match out.getLast? with | some x => x.2 | none => 0
def playStep (st : List (ByteArray × Nat) × Nat) (s : Step) : List (ByteArray × Nat) × Nat :=
  if s.kind = 0 then (st.1 ++ [(s.text, st.2)], st.2)
  else if s.kind = 1 then (st.1 ++ s.texts.map (fun t => (t, st.2)), st.2)
  else if s.kind = 2 then (if 0 < st.1.length ∧ st.2 ≤ lastLevel st.1 then (st.1, st.2 + 1) else st)
  else if s.kind = 3 then (st.1, st.2 - 1)
  else if s.kind = 4 then (st.1, 0)
  else if s.kind = 5 then ([], 0)
  else st
def playK (l : List Step) (k : Nat) : List (ByteArray × Nat) × Nat := (l.take k).foldl playStep ([], 0)
def played (l : List Step) : List (ByteArray × Nat) := (l.foldl playStep ([], 0)).1
theorem playK_step {l : List Step} {k : Nat} {s : Step} (h : l[k]? = some s) : playK l (k + 1) = playStep (playK l k) s := by
  unfold playK; rw [take_step h, List.foldl_append]; rfl
theorem playK_all {l : List Step} {k : Nat} (h : l.length ≤ k) : playK l k = l.foldl playStep ([], 0) := by
  unfold playK; rw [List.take_of_length_le h]

/-- How many items some steps make at most. -/
def cost (l : List Step) : Nat := (l.map fun s => s.texts.length + 1).sum
theorem cost_step {l : List Step} {k : Nat} {s : Step} (h : l[k]? = some s) : cost (l.take (k + 1)) = cost (l.take k) + (s.texts.length + 1) := by
  unfold cost; rw [take_step h, List.map_append, List.sum_append]; simp
theorem cost_take (l : List Step) (k : Nat) : cost (l.take k) ≤ cost l := by
  conv => rhs; rw [← List.take_append_drop k l]
  unfold cost; rw [List.map_append, List.sum_append]; omega
theorem play_size (l : List Step) : ∀ k : Nat, (playK l k).1.length ≤ cost (l.take k) ∧ (playK l k).2 ≤ k := by
  intro k
  induction k with
  | zero => simp [playK]
  | succ k ih =>
    cases h : l[k]? with
    | none =>
      have hl : l.length ≤ k := by
        rcases Nat.lt_or_ge k l.length with h1 | h1
        · rw [List.getElem?_eq_getElem h1] at h; cases h
        · exact h1
      rw [playK_all (by omega), ← playK_all hl, List.take_of_length_le (by omega)]
      rw [List.take_of_length_le hl] at ih
      omega
    | some s =>
      rw [playK_step h, cost_step h]
      generalize playK l k = st at *
      unfold playStep
      split
      · simp; omega
      · split
        · simp; omega
        · split
          · split
            · simp; omega
            · omega
          · split
            · simp; omega
            · split
              · simp; omega
              · split
                · simp
                · omega

def flatI (l : List (ByteArray × Nat)) : List Value := l.flatMap fun x => [.string x.1, .int .i64 x.2]
theorem flatI_snoc (l : List (ByteArray × Nat)) (x : ByteArray × Nat) : flatI (l ++ [x]) = flatI l ++ [.string x.1, .int .i64 x.2] := by simp [flatI]
theorem flatI_len (l : List (ByteArray × Nat)) : (flatI l).length = l.length * 2 := by
  induction l with
  | nil => rfl
  | cons x l ih => simp [flatI] at *; omega
theorem flatI_last {l : List (ByteArray × Nat)} (h : 0 < l.length) : (flatI l)[(l.length - 1) * 2 + 1]? = some (.int .i64 (lastLevel l)) := by
  obtain ⟨r, x, rfl⟩ : ∃ r x, l = r ++ [x] := by
    have hne : l ≠ [] := by intro e; rw [e] at h; simp at h
    exact ⟨l.dropLast, l.getLast hne, (List.dropLast_concat_getLast hne).symm⟩
  rw [flatI_snoc, List.length_append]
  simp only [List.length_cons, List.length_nil, Nat.zero_add, Nat.add_sub_cancel]
  rw [List.getElem?_append_right (by rw [flatI_len]; omega), flatI_len, Nat.add_sub_cancel_left]
  simp [lastLevel]

theorem cell_two_at (w : World) (x y : Value) (t : TypeId) (g : Nat) (hg : g = w.heap.size) : ∀ j u, [x, y][j]? = some u → (w.alloc (.cells #[x, y] t)).cell? ((⟨g, 0, none⟩ : Addr).add j) = some u := by
  subst hg; exact cell_two w x y t
theorem pair_one (t : ByteArray) (x : Int) : ∀ u ∈ [Value.string t, .int .i64 x], u.oneCell' = true := by
  intro u hu
  rcases List.mem_cons.1 hu with rfl | hu
  · rfl
  · rcases List.mem_cons.1 hu with rfl | hu
    · rfl
    · cases hu

theorem play0 {st : List (ByteArray × Nat) × Nat} {s : Step} (h : (s.kind == 0) = true) : playStep st s = (st.1 ++ [(s.text, st.2)], st.2) := by
  simp at h; simp [playStep, h]
theorem play1 {st : List (ByteArray × Nat) × Nat} {s : Step} (h : (s.kind == 1) = true) : playStep st s = (st.1 ++ s.texts.map (fun t => (t, st.2)), st.2) := by
  simp at h; simp [playStep, h]
theorem play2 {st : List (ByteArray × Nat) × Nat} {s : Step} (h : (s.kind == 2) = true) : playStep st s = if 0 < st.1.length ∧ st.2 ≤ lastLevel st.1 then (st.1, st.2 + 1) else st := by
  simp at h; simp [playStep, h]
theorem play3 {st : List (ByteArray × Nat) × Nat} {s : Step} (h : (s.kind == 3) = true) : playStep st s = (st.1, st.2 - 1) := by
  simp at h; simp [playStep, h]
theorem play4 {st : List (ByteArray × Nat) × Nat} {s : Step} (h : (s.kind == 4) = true) : playStep st s = (st.1, 0) := by
  simp at h; simp [playStep, h]
theorem play5 {st : List (ByteArray × Nat) × Nat} {s : Step} (h : (s.kind == 5) = true) : playStep st s = ([], 0) := by
  simp at h; simp [playStep, h]
theorem play6 {st : List (ByteArray × Nat) × Nat} {s : Step} (h0 : (s.kind == 0) = false) (h1 : (s.kind == 1) = false) (h2 : (s.kind == 2) = false) (h3 : (s.kind == 3) = false) (h4 : (s.kind == 4) = false) (h5 : (s.kind == 5) = false) : playStep st s = st := by
  simp at h0 h1 h2 h3 h4 h5; simp [playStep, h0, h1, h2, h3, h4, h5]

end Go.Proofs.YtdkpacgbniclhaaDoor
