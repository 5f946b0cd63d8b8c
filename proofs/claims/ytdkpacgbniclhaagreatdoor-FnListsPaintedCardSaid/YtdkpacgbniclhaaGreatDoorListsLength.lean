/- Walk of laws.FnListsLength: it answers true and writes nothing that was there. No condition. -/
import Derived.Test.YtdkpacgbniclhaaGreatDoorListOf
import Derived.Test.YtdkpacgbniclhaaGreatDoorPaintPlain
namespace Go.Proofs.YtdkpacgbniclhaaGreatDoor
open Go.RowKit

theorem okB_ne {b : Bool} : okB b 9 = false ∧ okB b 13 = false := by cases b <;> exact ⟨by decide, by decide⟩
theorem plain_of {t : ByteArray} (h : textB t = true) : plainT t := by
  unfold textB at h
  simp only [Bool.and_eq_true, decide_eq_true_eq] at h
  have hs := h.2
  unfold simpleB at hs
  rw [List.all_eq_true] at hs
  refine ⟨fun hb => ?_, fun hb => ?_, by omega⟩
  · have := hs _ (byte_in_runes hb (by decide))
    rw [show (((9 : UInt8).toNat : Nat) : Int) = 9 from rfl, okB_ne.1] at this
    cases this
  · have := hs _ (byte_in_runes hb (by decide))
    rw [show (((13 : UInt8).toNat : Nat) : Int) = 13 from rfl, okB_ne.2] at this
    cases this
theorem right_plain {l : List Step} (h : rightB l = true) : (∀ s ∈ l, plainS s) ∧ cost l ≤ 880 ∧ l.length ≤ 80 := by
  unfold rightB at h
  simp only [Bool.and_eq_true, decide_eq_true_eq] at h
  have h1 := List.all_eq_true.1 h.1
  refine ⟨fun s hs => ?_, ?_, h.2⟩
  · have := h1 s hs
    unfold stepRightB at this
    simp only [Bool.and_eq_true] at this
    exact ⟨plain_of this.1, fun t ht => plain_of (List.all_eq_true.1 this.2.2 t ht)⟩
  · have key : ∀ l : List Step, (∀ s ∈ l, s.texts.length ≤ 10) → cost l ≤ 11 * l.length := by
      intro l
      induction l with
      | nil => intro _; simp [cost]
      | cons s l ih =>
        intro hl
        have h2 := ih fun x hx => hl x (by simp [hx])
        have h3 := hl s (by simp)
        simp only [cost, List.map_cons, List.sum_cons, List.length_cons] at *
        omega
    have := key l fun s hs => by
      have := h1 s hs
      unfold stepRightB at this
      simp only [Bool.and_eq_true, decide_eq_true_eq] at this
      exact this.2.1
    omega

/-- One step of a text, as the laws write it. -/
def oneStep (t : ByteArray) : List Step := [⟨0, t, []⟩]
theorem one_at (w : World) (t : ByteArray) : StepsAt (w.alloc (.cells #[.int .i64 0, .string t, .slice none 0 0] 66)) (w.alloc (.cells #[.int .i64 0, .string t, .slice none 0 0] 66)).heap.size (some ⟨w.heap.size, 0, none⟩) 1 1 (oneStep t) := by
  refine ⟨[.int .i64 0, .string t, .slice none 0 0], ⟨rfl, Nat.le_refl _, by omega, fun _ => ⟨_, rfl, by simp, World.news_of_block (cs := #[.int .i64 0, .string t, .slice none 0 0]) (heap_alloc_new w _)⟩⟩, rfl, fun k s hs => ?_⟩
  match k, hs with
  | 0, hs =>
    simp [oneStep] at hs
    subst hs
    exact ⟨none, 0, 0, rfl, rfl, rfl, Rd.nil _ _ _⟩
  | k + 1, hs => simp [oneStep] at hs
theorem one_plain : ∀ s ∈ oneStep ⟨#[97]⟩, plainS s := by
  intro s hs
  simp [oneStep] at hs
  subst hs
  exact ⟨⟨by decide, by decide, by decide⟩, fun t ht => by simp at ht⟩

end Go.Proofs.YtdkpacgbniclhaaGreatDoor
