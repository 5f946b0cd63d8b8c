/- Walk of laws.FnListsUnIndents: it answers true and writes nothing that was there. No condition. -/
import Derived.Test.YtdkpacgbniclhaaGreatDoorListPlain
import Derived.Test.YtdkpacgbniclhaaGreatDoorOwnSteps
namespace Go.Proofs.YtdkpacgbniclhaaGreatDoor
open Go.RowKit

theorem cost_append (a b : List Step) : cost (a ++ b) = cost a + cost b := by unfold cost; rw [List.map_append, List.sum_append]
theorem cost_one (k : Int) (t : ByteArray) (ts : List ByteArray) : cost [⟨k, t, ts⟩] = ts.length + 1 := by simp [cost]
theorem cost_rep (k : Int) (t : ByteArray) (r : Nat) : cost (List.replicate r ⟨k, t, []⟩) = r := by simp [cost]

/-- Steps that make something else: all un-indents; un-indents. -/
def unAll : Step := ⟨4, ⟨#[]⟩, []⟩
def unOne : Step := ⟨3, ⟨#[]⟩, []⟩
theorem play_rep (out : List (ByteArray × Nat)) : ∀ r : Nat, (List.replicate r unOne).foldl playStep (out, 0) = (out, 0)
  | 0 => rfl
  | r + 1 => by rw [List.replicate_succ, List.foldl_cons, show playStep (out, 0) unOne = (out, 0) from rfl, play_rep out r]
theorem played_un (l more : List Step) (r : Nat) : played (l ++ [unAll] ++ List.replicate r unOne ++ more) = played (l ++ [unAll] ++ more) := by
  unfold played
  simp only [List.foldl_append, List.foldl_cons, List.foldl_nil]
  generalize List.foldl playStep ([], 0) l = st
  rw [show playStep st unAll = (st.1, 0) from rfl, play_rep]

theorem small_one {k : Int} : ∀ s ∈ [(⟨k, ⟨#[]⟩, []⟩ : Step)], s.text.size ≤ 1000 ∧ ∀ t ∈ s.texts, t.size ≤ 1000 := by
  intro s hs
  simp at hs
  subst hs
  exact ⟨Nat.zero_le _, fun t ht => by simp at ht⟩
theorem plainT_nil : plainT ⟨#[]⟩ := ⟨by decide, by decide, by decide⟩
theorem plain_none {k : Int} : plainS ⟨k, ⟨#[]⟩, []⟩ := ⟨plainT_nil, fun t ht => by simp at ht⟩
theorem ListsOK.app {P : Step → Prop} {a b : List Step} (ha : ∀ s ∈ a, P s) (hb : ∀ s ∈ b, P s) : ∀ s ∈ a ++ b, P s := fun s hs => (List.mem_append.1 hs).elim (ha s) (hb s)

/-- What is known of steps that are rendered. -/
structure Fine (l : List Step) : Prop where
  len : l.length ≤ 300
  cost : cost l ≤ 2000
  plain : ∀ s ∈ l, plainS s
  small : ∀ s ∈ l, s.text.size ≤ 1000 ∧ ∀ t ∈ s.texts, t.size ≤ 1000
theorem Fine.drawn {l : List Step} (h : Fine l) : itemsSmall (played l) := played_drawn h.len h.cost h.small
theorem Fine.html {l : List Step} (h : Fine l) : ∀ s ∈ l, s.text.size ≤ 100000 ∧ ∀ t ∈ s.texts, t.size ≤ 100000 := fun s hs => ⟨by have := (h.small s hs).1; omega, fun t ht => by have := (h.small s hs).2 t ht; omega⟩
theorem Fine.of_right {l : List Step} (h : rightB l = true) : Fine l := by
  obtain ⟨h1, h2, h3⟩ := right_plain h
  exact ⟨by omega, by omega, h1, right_small h⟩

end Go.Proofs.YtdkpacgbniclhaaGreatDoor
