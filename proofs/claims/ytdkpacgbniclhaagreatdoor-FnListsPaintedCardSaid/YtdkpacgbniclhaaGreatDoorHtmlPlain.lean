/- Plain laws: what a list looks like in HTML, how long it is. No condition. -/
import Derived.Test.YtdkpacgbniclhaaGreatDoorHEsc
import Derived.Test.YtdkpacgbniclhaaGreatDoorColor
import Derived.Test.YtdkpacgbniclhaaGreatDoorPlayed
import Derived.Lib.Repeat
namespace Go.Proofs.YtdkpacgbniclhaaGreatDoor
open Go.RowKit

def preH (lv : Nat) : List UInt8 := Lib.repeatL [32, 32] lv
def BR : List UInt8 := [60, 98, 114, 47, 62]
def lineH (lv : Nat) (t : List UInt8) : List UInt8 := preH lv ++ [32, 32, 60, 108, 105, 62] ++ replL [10] BR (escH t) ++ [60, 47, 108, 105, 62, 10]
def openH (css : List UInt8) (lv : Nat) : List UInt8 := preH lv ++ [60, 117, 108, 32, 99, 108, 97, 115, 115, 61, 34] ++ escH css ++ (if 0 < lv then [45] ++ decL lv else []) ++ [34, 62, 10]
def closeH (lv : Nat) : List UInt8 := preH lv ++ [60, 47, 117, 108, 62]

/-- What the items from i on look like at a level; how many they are. -/
def htmlL (css : List UInt8) (items : List (ByteArray × Nat)) : Nat → Nat → Nat → Nat → List UInt8 × Nat
  | 0, _, _, cnt => ([], cnt)
  | f + 1, lv, i, cnt => match items[i]? with
    | none => ([], cnt)
    | some x =>
      if x.2 = lv then (lineH lv (bl x.1) ++ (htmlL css items f lv (i + 1) (cnt + 1)).1, (htmlL css items f lv (i + 1) (cnt + 1)).2)
      else if lv < x.2 then
        (openH css x.2 ++ (htmlL css items f x.2 i 0).1 ++ closeH x.2 ++ (if 0 < cnt + (htmlL css items f x.2 i 0).2 then [10] else []) ++ (htmlL css items f lv (i + (htmlL css items f x.2 i 0).2) (cnt + (htmlL css items f x.2 i 0).2)).1,
          (htmlL css items f lv (i + (htmlL css items f x.2 i 0).2) (cnt + (htmlL css items f x.2 i 0).2)).2)
      else ([], cnt)

section
variable {css : List UInt8} {items : List (ByteArray × Nat)} {f lv i cnt : Nat} {x : ByteArray × Nat}
theorem html_none (h : items[i]? = none) : htmlL css items (f + 1) lv i cnt = ([], cnt) := by rw [htmlL, h]
theorem html_same (h : items[i]? = some x) (he : x.2 = lv) : htmlL css items (f + 1) lv i cnt = (lineH lv (bl x.1) ++ (htmlL css items f lv (i + 1) (cnt + 1)).1, (htmlL css items f lv (i + 1) (cnt + 1)).2) := by
  rw [htmlL, h]; simp only; rw [if_pos he]
theorem html_deep (h : items[i]? = some x) (he : lv < x.2) : htmlL css items (f + 1) lv i cnt = (openH css x.2 ++ (htmlL css items f x.2 i 0).1 ++ closeH x.2 ++ (if 0 < cnt + (htmlL css items f x.2 i 0).2 then [10] else []) ++ (htmlL css items f lv (i + (htmlL css items f x.2 i 0).2) (cnt + (htmlL css items f x.2 i 0).2)).1,
          (htmlL css items f lv (i + (htmlL css items f x.2 i 0).2) (cnt + (htmlL css items f x.2 i 0).2)).2) := by
  rw [htmlL, h]; simp only; rw [if_neg (by omega), if_pos he]
theorem html_up (h : items[i]? = some x) (he : x.2 < lv) : htmlL css items (f + 1) lv i cnt = ([], cnt) := by
  rw [htmlL, h]; simp only; rw [if_neg (by omega), if_neg (by omega)]
end

theorem preH_len (lv : Nat) : (preH lv).length = 2 * lv := by
  rw [preH, Lib.repeatL_length]; simp; omega
theorem br_len : ∀ l : List UInt8, (replL [10] BR l).length ≤ 5 * l.length
  | [] => by rw [replL_nil]; simp
  | b :: l => by
    by_cases h : ([10] : List UInt8).isPrefixOf (b :: l) = true
    · rw [replL_hit _ h]
      have := br_len l
      have hb : BR.length = 5 := rfl
      simp only [List.length_append, List.length_cons, hb]
      simp
      omega
    · rw [replL_miss _ (Bool.eq_false_iff.2 h)]
      have := br_len l
      simp
      omega

/-- Sizes: of a line, of what stands round the items of a level. -/
theorem line_len {lv : Nat} {t : List UInt8} (h : lv ≤ 2000) (ht : t.length ≤ 100000) : (lineH lv t).length ≤ 2505000 := by
  have h1 := br_len (escH t)
  have h2 := escH_len t
  have h3 := preH_len lv
  simp only [lineH, List.length_append, List.length_cons, List.length_nil]
  omega
theorem open_len {css : List UInt8} {lv : Nat} (h : lv ≤ 2000) (hc : css.length ≤ 1000) : (openH css lv).length ≤ 10000 := by
  have h2 := escH_len css
  have h3 := preH_len lv
  have h4 := decL_len lv (by omega)
  unfold openH
  split
  · simp only [List.length_append, List.length_cons, List.length_nil]; omega
  · simp only [List.length_append, List.length_cons, List.length_nil]; omega
theorem close_len {lv : Nat} (h : lv ≤ 2000) : (closeH lv).length ≤ 5000 := by
  have h3 := preH_len lv
  simp only [closeH, List.length_append, List.length_cons, List.length_nil]
  omega

/-- Enough steps. -/
def enough (items : List (ByteArray × Nat)) (f lv i : Nat) : Prop := 2 * (items.length - i) + 2 ≤ f ∨ (2 * (items.length - i) + 1 ≤ f ∧ ∃ x, items[i]? = some x ∧ x.2 = lv)
theorem enough_pos {items : List (ByteArray × Nat)} {f lv i : Nat} (h : enough items f lv i) : 0 < f := by rcases h with h | ⟨h, _⟩ <;> omega
theorem enough_same {items : List (ByteArray × Nat)} {f lv i : Nat} {x : ByteArray × Nat} (h : enough items (f + 1) lv i) (hx : items[i]? = some x) : enough items f lv (i + 1) := by
  have hlt : i < items.length := (List.getElem?_eq_some_iff.1 hx).1
  left
  rcases h with h | ⟨h, _⟩ <;> omega
theorem enough_in {items : List (ByteArray × Nat)} {f lv i : Nat} {x : ByteArray × Nat} (h : enough items (f + 1) lv i) (hx : items[i]? = some x) (hd : x.2 ≠ lv) : enough items f x.2 i := by
  right
  rcases h with h | ⟨_, y, hy, he⟩
  · exact ⟨by omega, x, hx, rfl⟩
  · rw [hx] at hy; injection hy with hy; subst hy; exact absurd he hd
theorem enough_out {items : List (ByteArray × Nat)} {f lv i n : Nat} {x : ByteArray × Nat} (h : enough items (f + 1) lv i) (hx : items[i]? = some x) (hd : x.2 ≠ lv) (hn : 1 ≤ n) (hi : i + n ≤ items.length) : enough items f lv (i + n) := by
  left
  rcases h with h | ⟨_, y, hy, he⟩
  · omega
  · rw [hx] at hy; injection hy with hy; subst hy; exact absurd he hd

/-- How many items, how many bytes. -/
theorem html_size (css : List UInt8) (items : List (ByteArray × Nat)) (hc : css.length ≤ 1000) (hi : ∀ x ∈ items, x.1.size ≤ 100000 ∧ x.2 ≤ 2000) : ∀ f lv i cnt : Nat, i ≤ items.length → enough items f lv i →
    cnt ≤ (htmlL css items f lv i cnt).2 ∧ i + ((htmlL css items f lv i cnt).2 - cnt) ≤ items.length ∧ (htmlL css items f lv i cnt).1.length ≤ ((htmlL css items f lv i cnt).2 - cnt) * 2600000 ∧
    (∀ x, items[i]? = some x → x.2 = lv → cnt + 1 ≤ (htmlL css items f lv i cnt).2 ∧ (htmlL css items f lv i cnt).1.length + 20000 ≤ ((htmlL css items f lv i cnt).2 - cnt) * 2600000) := by
  intro f
  induction f with
  | zero => intro lv i cnt hin hen; exact absurd (enough_pos hen) (by omega)
  | succ f ih =>
    intro lv i cnt hin hen
    cases hx : items[i]? with
    | none =>
      rw [html_none hx]
      exact ⟨Nat.le_refl _, by simp; omega, by simp, fun x h => by cases h⟩
    | some x =>
      have hlt : i < items.length := (List.getElem?_eq_some_iff.1 hx).1
      have hxb := hi x (List.mem_of_getElem? hx)
      have hbl : (bl x.1).length ≤ 100000 := by rw [bl_size]; exact hxb.1
      by_cases he : x.2 = lv
      · rw [html_same hx he]
        obtain ⟨h1, h2, h3, _⟩ := ih lv (i + 1) (cnt + 1) (by omega) (enough_same hen hx)
        have h4 := line_len (lv := lv) (by omega) hbl
        generalize htmlL css items f lv (i + 1) (cnt + 1) = r at *
        obtain ⟨m, hm⟩ : ∃ m, r.2 = cnt + 1 + m := ⟨r.2 - (cnt + 1), by omega⟩
        rw [hm] at h2 h3 ⊢
        have e1 : cnt + 1 + m - (cnt + 1) = m := by omega
        have e2 : cnt + 1 + m - cnt = m + 1 := by omega
        rw [e1] at h2 h3
        simp only [List.length_append, e2]
        rw [Nat.add_mul]
        exact ⟨by omega, by omega, by omega, fun _ _ _ => ⟨by omega, by omega⟩⟩
      · by_cases hd : lv < x.2
        · rw [html_deep hx hd]
          obtain ⟨h1, h2, h3, h4⟩ := ih x.2 i 0 hin (enough_in hen hx he)
          have h5 := open_len (css := css) (lv := x.2) hxb.2 hc
          have h6 := close_len (lv := x.2) hxb.2
          obtain ⟨h7, h8⟩ := h4 x hx rfl
          generalize htmlL css items f x.2 i 0 = n at *
          obtain ⟨g1, g2, g3, _⟩ := ih lv (i + n.2) (cnt + n.2) (by omega) (enough_out hen hx he (by omega) (by omega))
          generalize htmlL css items f lv (i + n.2) (cnt + n.2) = r at *
          obtain ⟨m, hm⟩ : ∃ m, r.2 = cnt + n.2 + m := ⟨r.2 - (cnt + n.2), by omega⟩
          rw [hm] at g2 g3 ⊢
          have e1 : cnt + n.2 + m - (cnt + n.2) = m := by omega
          have e2 : cnt + n.2 + m - cnt = n.2 + m := by omega
          rw [e1] at g2 g3
          rw [Nat.sub_zero] at h2 h3 h8
          simp only [List.length_append, e2]
          rw [Nat.add_mul]
          have h9 : (if 0 < cnt + n.2 then ([10] : List UInt8) else []).length ≤ 1 := by split <;> simp
          refine ⟨by omega, by omega, by omega, fun y hy hyl => ?_⟩
          simp at hy
          subst hy
          exact absurd hyl he
        · rw [html_up hx (by omega)]
          refine ⟨Nat.le_refl _, by simp; omega, by simp, fun y hy hyl => ?_⟩
          simp at hy
          subst hy
          exact absurd hyl he
end Go.Proofs.YtdkpacgbniclhaaGreatDoor
