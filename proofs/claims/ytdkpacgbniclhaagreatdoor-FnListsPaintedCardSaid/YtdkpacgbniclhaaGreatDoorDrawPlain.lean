/- Plain laws: what a list looks like in a style. No condition. -/
import Derived.Test.YtdkpacgbniclhaaGreatDoorInit
import Derived.Test.YtdkpacgbniclhaaGreatDoorPlayed
namespace Go.Proofs.YtdkpacgbniclhaaGreatDoor
open Go.RowKit

/-- The texts that a function makes of a list's elements, one behind the other. -/
def mapCat {α : Type} (f : Nat → α → List UInt8) : Nat → List α → List UInt8
  | _, [] => []
  | k, t :: r => f k t ++ mapCat f (k + 1) r
theorem mapCat_snoc {α : Type} (f : Nat → α → List UInt8) (x : α) : ∀ (l : List α) (k : Nat), mapCat f k (l ++ [x]) = mapCat f k l ++ f (k + l.length) x
  | [], k => by simp [mapCat]
  | t :: r, k => by
    rw [List.cons_append, mapCat, mapCat, mapCat_snoc f x r (k + 1), List.append_assoc, List.length_cons, show k + 1 + r.length = k + (r.length + 1) by omega]
theorem mapCat_step {α : Type} (f : Nat → α → List UInt8) {l : List α} {k : Nat} {x : α} (h : l[k]? = some x) : mapCat f 0 (l.take (k + 1)) = mapCat f 0 (l.take k) ++ f k x := by
  have hk : k < l.length := (List.getElem?_eq_some_iff.1 h).1
  rw [take_step h, mapCat_snoc, List.length_take, Nat.min_eq_left (by omega), Nat.zero_add]

/-- Whether more items come at a level. -/
def moreB (lv : Nat) : List (ByteArray × Nat) → Bool
  | [] => false
  | x :: r => if x.2 < lv then false else if x.2 = lv then true else moreB lv r
theorem moreB_step {lv k : Nat} {items : List (ByteArray × Nat)} {x : ByteArray × Nat} (h : items[k]? = some x) : moreB lv (items.drop k) = if x.2 < lv then false else if x.2 = lv then true else moreB lv (items.drop (k + 1)) := by
  rw [drop_step h, moreB]
theorem moreB_end {lv k : Nat} {items : List (ByteArray × Nat)} (h : items.length ≤ k) : moreB lv (items.drop k) = false := by
  rw [List.drop_of_length_le h, moreB]

def linkD (st : StyleV) (items : List (ByteArray × Nat)) (i lv : Nat) : List UInt8 := if moreB lv (items.drop (i + 1)) = true then bl st.vert else bl (spacesOf st)
def aheadD (st : StyleV) (items : List (ByteArray × Nat)) (i lv : Nat) : List UInt8 := bl st.pfx ++ (List.range lv).flatMap (linkD st items i)

/-- The hint of an item: topmost, first, only, last, bottom. -/
structure HintV where
  top : Bool
  first : Bool
  only : Bool
  last : Bool
  bottom : Bool
def HintV.val (h : HintV) : Value := .agg #[.bool h.top, .bool h.first, .bool h.only, .bool h.last, .bool h.bottom]
def firstB (items : List (ByteArray × Nat)) (i lv : Nat) : Bool := match i with
  | 0 => true
  | j + 1 => match items[j]? with
    | some y => decide (y.2 < lv)
    | none => true
def hintOf (items : List (ByteArray × Nat)) (i lv : Nat) : HintV :=
  ⟨decide (i = 0), firstB items i lv, firstB items i lv && !moreB lv (items.drop (i + 1)), !moreB lv (items.drop (i + 1)), decide (i + 1 = items.length)⟩
def bulletS (st : StyleV) (h : HintV) : ByteArray := if h.only = true then (if h.top = true then st.single else st.bottom) else if h.top = true then st.top else if h.first = true then st.first else if (h.bottom || h.last) = true then st.bottom else st.middle
def bulletD (st : StyleV) (h : HintV) (k : Nat) : List UInt8 := if 0 < k then (if h.last = true then bl (spacesOf st) else bl st.vert) else bl (bulletS st h) ++ [32]
def textD (st : StyleV) (t : ByteArray) : ByteArray := if 0 ≤ zfind t ⟨#[10]⟩ 0 ∧ bl st.newline ≠ [10] then ⟨(replL [10] (bl st.newline) (bl t)).toArray⟩ else t
def lineD (st : StyleV) (items : List (ByteArray × Nat)) (i lv k : Nat) (t : ByteArray) : List UInt8 := (if 0 < k then [10] else []) ++ aheadD st items i lv ++ bulletD st (hintOf items i lv) k ++ bl t
def mkB (l : List UInt8) : ByteArray := ⟨l.toArray⟩
def linesOf (st : StyleV) (t : ByteArray) : List ByteArray := (splitL [10] (bl (textD st t))).map mkB
def itemD (st : StyleV) (items : List (ByteArray × Nat)) (i : Nat) (x : ByteArray × Nat) : List UInt8 := (if 0 < i then [10] else []) ++ mapCat (lineD st items i x.2) 0 (linesOf st x.1)
def drawD (st : StyleV) (items : List (ByteArray × Nat)) : List UInt8 := mapCat (itemD st items) 0 items

/-- Sizes that a list is drawn within. -/
def styleSmall (st : StyleV) : Prop := st.fmt = 0 ∧ st.single.size ≤ 20 ∧ st.top.size ≤ 20 ∧ st.first.size ≤ 20 ∧ st.middle.size ≤ 20 ∧ st.vert.size ≤ 20 ∧ st.bottom.size ≤ 20 ∧ st.newline.size ≤ 20 ∧ st.pfx.size ≤ 20
def itemsSmall (items : List (ByteArray × Nat)) : Prop := items.length ≤ 2000 ∧ ∀ x ∈ items, x.1.size ≤ 1000 ∧ x.2 ≤ 300
theorem spaces_size {st : StyleV} (h : st.vert.size ≤ 20) : (spacesOf st).size ≤ 20 := by
  rw [← bl_size]
  show (Lib.repeatL (bl ⟨#[32]⟩) (Lib.runeCount st.vert)).length ≤ 20
  rw [Lib.repeatL_length]
  have := Lib.runeCount_le st.vert
  simp [bl]
  omega
theorem replL_len {x : UInt8} {new : List UInt8} {m : Nat} (hm : new.length ≤ m) (h1 : 1 ≤ m) : ∀ l : List UInt8, (replL [x] new l).length ≤ m * l.length
  | [] => by rw [replL_nil]; simp
  | y :: t => by
    have ih := replL_len (x := x) hm h1 t
    rw [List.length_cons, Nat.mul_add, Nat.mul_one]
    cases h : ([x] : List UInt8).isPrefixOf (y :: t) with
    | true =>
      rw [replL_hit new h]
      simp only [List.length_cons, List.length_nil, Nat.zero_add, Nat.sub_self, List.drop_zero, List.length_append]
      omega
    | false => rw [replL_miss new h, List.length_cons]; omega
theorem textD_size {st : StyleV} {t : ByteArray} (hs : styleSmall st) (ht : t.size ≤ 1000) : (textD st t).size ≤ 20000 := by
  unfold textD
  split
  · rw [mk_size]
    have h := replL_len (x := 10) (new := bl st.newline) (m := 20) (by rw [bl_size]; exact hs.2.2.2.2.2.2.2.1) (by decide) (bl t)
    rw [bl_size] at h
    have : 20 * t.size ≤ 20 * 1000 := Nat.mul_le_mul (Nat.le_refl _) ht
    omega
  · omega
theorem splitL_len (x : UInt8) : ∀ l : List UInt8, (splitL [x] l).length ≤ l.length + 1 ∧ ∀ y ∈ splitL [x] l, y.length ≤ l.length
  | [] => by rw [splitL_nil]; simp
  | y :: t => by
    obtain ⟨i1, i2⟩ := splitL_len x t
    cases h : ([x] : List UInt8).isPrefixOf (y :: t) with
    | true =>
      rw [splitL_hit h]
      simp only [List.length_cons, List.length_nil, Nat.zero_add, Nat.sub_self, List.drop_zero]
      refine ⟨by omega, fun z hz => ?_⟩
      rcases List.mem_cons.1 hz with rfl | hz
      · simp
      · have := i2 z hz; omega
    | false =>
      rw [splitL_miss h]
      cases hs : splitL [x] t with
      | nil => simp
      | cons a r =>
        rw [hs] at i1 i2
        simp only [List.length_cons] at i1 ⊢
        refine ⟨by omega, fun z hz => ?_⟩
        rcases List.mem_cons.1 hz with rfl | hz
        · have := i2 a (by simp); simp; omega
        · have := i2 z (by simp [hz]); omega
theorem splitL_ne (x : UInt8) (l : List UInt8) : splitL [x] l ≠ [] := by
  cases l with
  | nil => rw [splitL_nil]; simp
  | cons y t =>
    cases h : ([x] : List UInt8).isPrefixOf (y :: t) with
    | true => rw [splitL_hit h]; simp
    | false =>
      rw [splitL_miss h]
      cases splitL [x] t with
      | nil => simp
      | cons a r => simp
end Go.Proofs.YtdkpacgbniclhaaGreatDoor
