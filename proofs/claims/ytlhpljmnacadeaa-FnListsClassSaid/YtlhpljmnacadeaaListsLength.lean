/- Walk of laws.FnListsLength: it answers true and writes nothing that was there. No condition. -/
import Derived.Test.YtlhpljmnacadeaaListOf
import Derived.Test.YtlhpljmnacadeaaPaintPlain
namespace Go.Proofs.Ytlhpljmnacadeaa
open Go.RowKit

theorem okB_ne {b : Bool} : okB b 9 = false ∧ okB b 13 = false := by cases b <;> exact ⟨by decide, by decide⟩
theorem plain_of {t : ByteArray} (h : textB t = true) : plainT t := by
  unfold textB at h
  simp only [Bool.and_eq_true, decide_eq_true_eq] at h
  have hs := h.2
  unfold simpleB at hs
  rw [List.all_eq_true] at hs
  refine ⟨fun hb => ?_, fun hb => ?_, by omega⟩
  · have := hs _ (byte_in_runes hb (by decide))
    rw [show (((9 : UInt8).toNat : Nat) : Int) = 9 from rfl, okB_ne.1] at this
    cases this
  · have := hs _ (byte_in_runes hb (by decide))
    rw [show (((13 : UInt8).toNat : Nat) : Int) = 13 from rfl, okB_ne.2] at this
    cases this
theorem right_plain {l : List Step} (h : rightB l = true) : (∀ s ∈ l, plainS s) ∧ cost l ≤ 880 ∧ l.length ≤ 80 := by
  unfold rightB at h
  simp only [Bool.and_eq_true, decide_eq_true_eq] at h
  have h1 := List.all_eq_true.1 h.1
  refine ⟨fun s hs => ?_, ?_, h.2⟩
  · have := h1 s hs
    unfold stepRightB at this
    simp only [Bool.and_eq_true] at this
    exact ⟨plain_of this.1, fun t ht => plain_of (List.all_eq_true.1 this.2.2 t ht)⟩
  · have key : ∀ l : List Step, (∀ s ∈ l, s.texts.length ≤ 10) → cost l ≤ 11 * l.length := by
      intro l
      induction l with
      | nil => intro _; simp [cost]
      | cons s l ih =>
        intro hl
        have h2 := ih fun x hx => hl x (by simp [hx])
        have h3 := hl s (by simp)
        simp only [cost, List.map_cons, List.sum_cons, List.length_cons] at *
        omega
    have := key l fun s hs => by
      have := h1 s hs
      unfold stepRightB at this
      simp only [Bool.and_eq_true, decide_eq_true_eq] at this
      exact this.2.1
    omega

/-- One step of a text, as the laws write it. -/
def oneStep (t : ByteArray) : List Step := [⟨0, t, []⟩]
theorem one_at (w : World) (t : ByteArray) : StepsAt (w.alloc (.cells #[.int .i64 0, .string t, .slice none 0 0] 38)) (w.alloc (.cells #[.int .i64 0, .string t, .slice none 0 0] 38)).heap.size (some ⟨w.heap.size, 0, none⟩) 1 1 (oneStep t) := by
  refine ⟨[.int .i64 0, .string t, .slice none 0 0], ⟨rfl, Nat.le_refl _, by omega, fun _ => ⟨_, rfl, by simp, World.news_of_block (cs := #[.int .i64 0, .string t, .slice none 0 0]) (heap_alloc_new w _)⟩⟩, rfl, fun k s hs => ?_⟩
  match k, hs with
  | 0, hs =>
    simp [oneStep] at hs
    subst hs
    exact ⟨none, 0, 0, rfl, rfl, rfl, Rd.nil _ _ _⟩
  | k + 1, hs => simp [oneStep] at hs
theorem one_plain : ∀ s ∈ oneStep ⟨#[97]⟩, plainS s := by
  intro s hs
  simp [oneStep] at hs
  subst hs
  exact ⟨⟨by decide, by decide, by decide⟩, fun t ht => by simp at ht⟩

set_option maxRecDepth 100000 in
set_option maxHeartbeats 4000000 in
theorem listsLength_any (A : Option Addr) (n c : Nat) (l : List Step) (w : World) (h : StepsAt w w.heap.size A n c l) :
    Calls Try.prog 4 #[.slice A n c] w fun e w' => e = .returned (.bool true) ∧ Below w.heap.size w w' := by
  cases hf : fitStepsB l with
  | false =>
    have HF := Lib.hid hf
    clear hf
    go_enter Try.func4, Try.ntmps4
    go_wp2_with fail
    refine (fitSteps_any _ _ _ l _ h).mono ?_
    rintro e w1 ⟨rfl, hb1⟩
    rw [HF.out]
    go_wp2
    go_ret
    exact ⟨rfl, hb1⟩
  | true =>
  have HF := Lib.hid hf
  clear hf
  cases hr : rightB l with
  | false =>
    have HR := Lib.hid hr
    clear hr
    go_enter Try.func4, Try.ntmps4
    go_wp2_with fail
    refine (fitSteps_any _ _ _ l _ h).mono ?_
    rintro e w1 ⟨rfl, hb1⟩
    rw [HF.out]
    have h1 := (h.below hb1).more hb1.size
    go_wp2_with fail
    refine (right_any _ _ _ l _ h1).mono ?_
    rintro e w2 ⟨rfl, hb2⟩
    rw [HR.out]
    have hb12 := hb1.trans (hb2.mono hb1.size)
    clear hb1 hb2 h1 h
    go_wp2
    go_ret
    exact ⟨rfl, hb12⟩
  | true =>
    have hrp := right_plain hr
    have HRP := Lib.hid hrp.1
    have hc := hrp.2.1
    have hl80 := hrp.2.2
    have HR := Lib.hid hr
    obtain ⟨m, hm⟩ : ∃ m, m = (played l).length := ⟨_, rfl⟩
    have HM := Lib.hid hm
    clear hr hrp hm
    go_enter Try.func4, Try.ntmps4
    go_wp2_with fail
    refine (fitSteps_any _ _ _ l _ h).mono ?_
    rintro e w1 ⟨rfl, hb1⟩
    rw [HF.out]
    have h1 := (h.below hb1).more hb1.size
    clear h
    go_wp2_with fail
    refine (right_any _ _ _ l _ h1).mono ?_
    rintro e w2 ⟨rfl, hb2⟩
    rw [HR.out]
    have hb12 := hb1.trans (hb2.mono hb1.size)
    have h2 := (h1.below hb2).more hb2.size
    clear hb1 hb2 h1
    go_wp2_with fail
    refine (listLength_any _ _ _ l _ h2 (by omega) (by omega) HRP.out).mono ?_
    rintro e w3 ⟨rfl, hb3⟩
    rw [← HM.out]
    have hb13 := hb12.trans (hb3.mono hb12.size)
    have h3 := (h2.below hb3).more hb3.size
    clear hb12 hb3 h2
    go_wp2_with fail
    refine (played_any _ _ _ l _ h3 (by omega)).mono ?_
    rintro e w4 ⟨v, rfl, hown, hb4⟩
    unfold OwnItems at hown
    rw [← HM.out] at hown
    obtain ⟨A4, c4, rfl, _⟩ := own_rd hown
    have hb14 := hb13.trans (hb4.mono hb13.size)
    have hb15 := hb14.alloc hb14.size (.cells #[.int .i64 0, .string ⟨#[97]⟩, .slice none 0 0] 38)
    have hone := one_at w4 ⟨#[97]⟩
    clear hb13 hb4 h3 hb14 hown
    go_wp2_with fail
    refine (listLength_any _ _ _ (oneStep ⟨#[97]⟩) _ hone (by decide) (by decide) one_plain).mono ?_
    rintro e w5 ⟨rfl, hb5⟩
    have hb16 := hb15.trans (hb5.mono hb15.size)
    rw [show (played (oneStep ⟨#[97]⟩)).length = 1 from rfl]
    clear hb15 hb5 hone
    go_wp2
    go_ret
    exact ⟨rfl, hb16⟩
end Go.Proofs.Ytlhpljmnacadeaa
