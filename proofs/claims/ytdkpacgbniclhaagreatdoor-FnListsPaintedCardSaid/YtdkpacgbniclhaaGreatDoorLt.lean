/- Plain laws: the lines of a text; what the list's reference draws is what the list draws. Condition: texts of known characters.
   Plain laws: the lines of what a list draws. Condition: texts of known characters.
   Walks of the small functions of the list's reference (LsMore, LsFirst, TxColumns, TxWidth): what they answer. Condition: sizes below the bounds that are named.
   Walks of the list's reference (TxTimes, TxLines): what they make. Condition: sizes below the bounds that are named.
   Walk of the list's reference's TxLines: which lines it makes. Condition: sizes below the bounds that are named.
   Walks of the list's reference's LtLines and LtDrawn: what they make. Condition: sizes below the bounds that are named.
   Walks of the list's reference's words on styles (LtStar, LtStyled) and of laws.zzFits14: what they answer. No condition.
   Walk of the list's reference's LtStyled: what it answers. No condition. -/
import Derived.Test.YtdkpacgbniclhaaGreatDoorDrawPlain
import Derived.Test.YtdkpacgbniclhaaGreatDoorUtf
import Derived.Test.YtdkpacgbniclhaaGreatDoorSteps
import Derived.Lib.MapLaws
import Derived.Test.YtdkpacgbniclhaaGreatDoorSame
import Derived.Deep.QuietTactic
import Derived.Deep.Slices
import Derived.BigQuiet
import Derived.Test.YtdkpacgbniclhaaGreatDoorLSplit
import Derived.Test.YtdkpacgbniclhaaGreatDoorListPlain
import Derived.Stop.FmtQuoteTie
import Derived.Test.YtdkpacgbniclhaaGreatDoorListObj
import Derived.Deep.RegionHeld3
namespace Go.Proofs.YtdkpacgbniclhaaGreatDoor
open Go.RowKit

def colsN (r : Int) : Nat := if wideB r = true then 2 else 1
theorem colsN_le (r : Int) : colsN r ≤ 2 := by unfold colsN; split <;> omega
def widthR (l : List Int) : Nat := (l.map fun r => if r = 10 then 0 else colsN r).sum

theorem decode_drop' (s : ByteArray) (i : Nat) (hi : i ≤ s.size) : Utf8.decode s i = Lib.decodeL ((bl s).drop i) := by
  have e : s = (⟨((bl s).take i).toArray⟩ : ByteArray) ++ ⟨((bl s).drop i).toArray⟩ := by
    apply bl_ext; rw [bl_app, bl_mk, bl_mk, List.take_append_drop]
  have hz : (⟨((bl s).take i).toArray⟩ : ByteArray).size = i := by rw [mk_size, List.length_take, bl_size]; omega
  have := decode_right ⟨((bl s).take i).toArray⟩ ⟨((bl s).drop i).toArray⟩ 0
  rw [← e, hz] at this
  exact this
theorem enc_runes' (s : ByteArray) (i : Nat) (hi : i ≤ s.size) (h : ∀ r ∈ runesFrom s i, r ≠ 65533) : (runesFrom s i).flatMap Lib.encodeRune = (bl s).drop i := by
  by_cases hp : i < s.size
  · have hw := Lib.decode_width_pos s i hp
    have hin := decode_in s i hp
    rw [runesFrom_step hp] at h ⊢
    have hd : (Utf8.decode s i).1 ≠ 65533 := by have := h ((Utf8.decode s i).1 : Int) (by simp); omega
    have hne : (bl s).drop i ≠ [] := by
      intro e
      have := congrArg List.length e
      rw [List.length_drop, bl_size] at this
      simp at this; omega
    have he := Lib.encode_decode ((bl s).drop i) hne (by rw [← decode_drop' s i hi]; intro h; exact hd h.1)
    rw [← decode_drop' s i hi] at he
    rw [List.flatMap_cons, he, enc_runes' s _ hin (fun r hr => h r (by simp [hr])), ← List.drop_drop, List.take_append_drop]
  · rw [runesFrom_end hp, List.drop_of_length_le (by rw [bl_size]; omega)]
    rfl
termination_by s.size - i
theorem enc_all {s : ByteArray} (h : ∀ r ∈ runes s, r ≠ 65533) : (runes s).flatMap Lib.encodeRune = bl s := by
  have := enc_runes' s 0 (Nat.zero_le _) h
  rw [List.drop_zero] at this
  exact this

theorem known_range {r : Int} (h : knownB r = true) : 32 ≤ r ∧ r ≤ 65374 := by
  simp [knownB, boxedB, wideB] at h
  omega
theorem simple_range {s : ByteArray} {b : Bool} (h : simpleB s b = true) : ∀ r ∈ runes s, 10 ≤ r ∧ r ≤ 65374 ∧ (r = 10 → b = true) := by
  intro r hr
  have h1 := List.all_eq_true.1 h r hr
  unfold okB at h1
  simp only [Bool.or_eq_true, Bool.and_eq_true, decide_eq_true_eq] at h1
  rcases h1 with h1 | ⟨h1, h2⟩
  · have := known_range h1; exact ⟨by omega, by omega, fun e => by omega⟩
  · exact ⟨by omega, by omega, fun _ => h1⟩
theorem simple_enc {s : ByteArray} {b : Bool} (h : simpleB s b = true) : (runes s).flatMap Lib.encodeRune = bl s :=
  enc_all fun r hr => by have := simple_range h r hr; omega

theorem runeCount_runes (s : ByteArray) : Lib.runeCount s = (runes s).length := by
  have key : ∀ (fuel pos : Nat), s.size ≤ pos + fuel → Lib.runeCountFrom s fuel pos = (runesFrom s pos).length := by
    intro fuel
    induction fuel with
    | zero => intro pos h; rw [runesFrom_end (by omega), Lib.runeCountFrom]; rfl
    | succ f ih =>
      intro pos h
      by_cases hp : pos < s.size
      · have hw := Lib.decode_width_pos s pos hp
        rw [Lib.runeCountFrom, if_pos hp, runesFrom_step hp, ih _ (by omega), List.length_cons]; omega
      · rw [Lib.runeCountFrom, if_neg hp, runesFrom_end hp]; rfl
  exact key s.size 0 (by omega)
theorem width_count : ∀ l : List Int, (∀ r ∈ l, r ≠ 10 ∧ wideB r = false) → widthR l = l.length
  | [], _ => rfl
  | r :: l, h => by
    have h1 := h r (by simp)
    have ih := width_count l (fun x hx => h x (by simp [hx]))
    unfold widthR at ih ⊢
    rw [List.map_cons, List.sum_cons, ih, if_neg h1.1, List.length_cons]
    unfold colsN
    rw [if_neg (by rw [h1.2]; simp)]
    omega

theorem enc_no10 {r : Int} (h : r ≠ 10) : ∀ b ∈ Lib.encodeRune r, b ≠ 10 := by
  intro b hb e
  subst e
  obtain ⟨x, hx, e⟩ := List.mem_map.1 hb
  have hby := Lib.encodeRuneZ_byte r x hx
  have e2 : x.toNat = 10 := by
    have := congrArg UInt8.toNat e
    simp at this
    omega
  have e3 : x = 10 := by omega
  subst e3
  unfold Lib.encodeRuneZ at hx
  split at hx
  · simp at hx; omega
  · split at hx
    · simp at hx; omega
    · split at hx
      · simp at hx; omega
      · split at hx
        · simp at hx; omega
        · simp at hx
theorem enc_10 : Lib.encodeRune 10 = [10] := by decide

/-- A text ahead of the first of some texts. -/
def consL (e : List UInt8) : List (List UInt8) → List (List UInt8)
  | [] => [e]
  | h :: t => (e ++ h) :: t
theorem consL_nil {l : List (List UInt8)} (h : l ≠ []) : consL [] l = l := by cases l with
  | nil => exact absurd rfl h
  | cons a r => rfl
theorem consL_consL (a b : List UInt8) (l : List (List UInt8)) : consL a (consL b l) = consL (a ++ b) l := by cases l with
  | nil => rfl
  | cons x r => show (a ++ (b ++ x)) :: r = _; rw [← List.append_assoc]; rfl
theorem pre10 {b : UInt8} (h : b ≠ 10) (l : List UInt8) : ([10] : List UInt8).isPrefixOf (b :: l) = false := by
  have : ((10 : UInt8) == b) = false := by rw [beq_eq_false_iff_ne]; exact fun e => h e.symm
  simp [List.isPrefixOf, this]
theorem splitL_pre : ∀ (e l : List UInt8), (∀ b ∈ e, b ≠ 10) → splitL [10] (e ++ l) = consL e (splitL [10] l)
  | [], l, _ => by rw [consL_nil (splitL_ne 10 l)]; rfl
  | b :: e, l, h => by
    rw [List.cons_append, splitL_miss (pre10 (h b (by simp)) _), splitL_pre e l (fun x hx => h x (by simp [hx]))]
    cases splitL [10] l with
    | nil => rfl
    | cons a r => rfl
theorem splitL_10 (l : List UInt8) : splitL [10] (10 :: l) = [] :: splitL [10] l := by
  rw [splitL_hit (by simp [List.isPrefixOf])]; rfl
theorem splitL_one {l : List UInt8} (h : ∀ b ∈ l, b ≠ 10) : splitL [10] l = [l] := by
  have := splitL_pre l [] h
  rw [List.append_nil, splitL_nil] at this
  rw [this]; show [l ++ []] = _; rw [List.append_nil]

/-- The lines of a text, character by character. -/
def lineStep (L : List (List UInt8)) (r : Int) : List (List UInt8) := if r = 10 then L ++ [[]] else L.dropLast ++ [L.getLastD [] ++ Lib.encodeRune r]
def linesL (rs : List Int) : List (List UInt8) := rs.foldl lineStep [[]]
theorem lineStep_10 (L : List (List UInt8)) : lineStep L 10 = L ++ [[]] := by unfold lineStep; rw [if_pos rfl]
theorem lineStep_ne {r : Int} (h : r ≠ 10) (D : List (List UInt8)) (c : List UInt8) : lineStep (D ++ [c]) r = D ++ [c ++ Lib.encodeRune r] := by
  unfold lineStep; rw [if_neg h, List.dropLast_concat]; simp [List.getLastD_concat]
theorem lines_from : ∀ (rs : List Int) (D : List (List UInt8)) (c : List UInt8), rs.foldl lineStep (D ++ [c]) = D ++ consL c (splitL [10] (rs.flatMap Lib.encodeRune))
  | [], D, c => by
    show D ++ [c] = _
    rw [List.flatMap_nil, splitL_nil]
    show _ = D ++ [c ++ []]
    rw [List.append_nil]
  | r :: rs, D, c => by
    rw [List.foldl_cons, List.flatMap_cons]
    by_cases h : r = 10
    · subst h
      have ih := lines_from rs (D ++ [c]) []
      rw [lineStep_10, ih, enc_10, List.cons_append, List.nil_append, splitL_10, consL_nil (splitL_ne 10 _), List.append_assoc]
      show _ = D ++ (c ++ []) :: _
      rw [List.append_nil]
      rfl
    · rw [lineStep_ne h, lines_from rs D _, splitL_pre _ _ (enc_no10 h), consL_consL]
theorem lines_split {t : ByteArray} (h : (runes t).flatMap Lib.encodeRune = bl t) : linesL (runes t) = splitL [10] (bl t) := by
  have := lines_from (runes t) [] []
  rw [List.nil_append, List.nil_append, consL_nil (splitL_ne 10 _), h] at this
  exact this
theorem lines_ne (rs : List Int) : linesL rs ≠ [] := by
  have := lines_from rs [] []
  rw [List.nil_append, List.nil_append, consL_nil (splitL_ne 10 _)] at this
  unfold linesL
  rw [this]
  exact splitL_ne 10 _

/-- Some texts with another one between. -/
def joinT (nl : List UInt8) (l : List (List UInt8)) : List UInt8 := mapCat (fun k x => (if 0 < k then nl else []) ++ x) 0 l
theorem mapCat_congr {α : Type} {f g : Nat → α → List UInt8} : ∀ (l : List α) (k : Nat), (∀ j x, k ≤ j → x ∈ l → f j x = g j x) → mapCat f k l = mapCat g k l
  | [], _, _ => rfl
  | x :: l, k, h => by
    rw [mapCat, mapCat, h k x (Nat.le_refl _) (by simp), mapCat_congr l (k + 1) (fun j y hj hy => h j y (by omega) (by simp [hy]))]
theorem mapCat_up {α : Type} {f : Nat → α → List UInt8} {g : α → List UInt8} (h : ∀ k x, 0 < k → f k x = g x) : ∀ (l : List α) (k m : Nat), 0 < k → 0 < m → mapCat f k l = mapCat f m l
  | [], _, _, _, _ => rfl
  | x :: l, k, m, hk, hm => by rw [mapCat, mapCat, h k x hk, h m x hm, mapCat_up h l (k + 1) (m + 1) (by omega) (by omega)]
theorem replL_join (nl : List UInt8) : ∀ l : List UInt8, replL [10] nl l = joinT nl (splitL [10] l)
  | [] => by rw [replL_nil, splitL_nil]; rfl
  | b :: l => by
    have ih := replL_join nl l
    by_cases h : b = 10
    · subst h
      rw [splitL_10, replL_hit nl (by simp [List.isPrefixOf])]
      show nl ++ replL [10] nl l = _
      rw [ih]
      unfold joinT
      rw [mapCat]
      have hne := splitL_ne 10 l
      cases hs : splitL [10] l with
      | nil => exact absurd hs hne
      | cons a r =>
        rw [mapCat, mapCat, mapCat_up (g := fun x => nl ++ x) (fun k x hk => by simp [hk]) r (0 + 1) (0 + 1 + 1) (by omega) (by omega)]
        simp
    · rw [splitL_miss (pre10 h l), replL_miss nl (pre10 h l), ih]
      have hne := splitL_ne 10 l
      cases hs : splitL [10] l with
      | nil => exact absurd hs hne
      | cons a r => simp [joinT, mapCat]
theorem replL_no10 {nl : List UInt8} (hn : ∀ b ∈ nl, b ≠ 10) : ∀ l : List UInt8, ∀ b ∈ replL [10] nl l, b ≠ 10
  | [], b, hb => by rw [replL_nil] at hb; cases hb
  | x :: l, b, hb => by
    by_cases h : x = 10
    · subst h
      rw [replL_hit nl (by simp [List.isPrefixOf])] at hb
      rcases List.mem_append.1 hb with h1 | h1
      · exact hn b h1
      · exact replL_no10 hn l b h1
    · rw [replL_miss nl (pre10 h l)] at hb
      rcases List.mem_cons.1 hb with rfl | h1
      · exact h
      · exact replL_no10 hn l b h1

/-- The reference's words: texts, what connects, what is ahead, bullets, lines. -/
def textsT (st : StyleV) (t : ByteArray) : List (List UInt8) := if bl st.newline ≠ [10] then [joinT (bl st.newline) (linesL (runes t))] else linesL (runes t)
def spacesT (st : StyleV) : List UInt8 := Lib.repeatL [32] (widthR (runes st.vert))
def linkT (st : StyleV) (items : List (ByteArray × Nat)) (i lv : Nat) : List UInt8 := if moreB lv (items.drop (i + 1)) = true then bl st.vert else spacesT st
def aheadT (st : StyleV) (items : List (ByteArray × Nat)) (i lv : Nat) : List UInt8 := bl st.pfx ++ (List.range lv).flatMap (linkT st items i)
def bulletT (st : StyleV) (i : Nat) (more first : Bool) : ByteArray :=
  if (first && !more && decide (i = 0)) = true then st.single else if i = 0 then st.top else if more = false then st.bottom else if first = true then st.first else st.middle
def lineT (st : StyleV) (items : List (ByteArray × Nat)) (i lv k : Nat) (t : List UInt8) : List UInt8 :=
  aheadT st items i lv ++ ((if k = 0 then bl (bulletT st i (moreB lv (items.drop (i + 1))) (firstB items i lv)) ++ [32] else linkT st items i lv) ++ t)
def mapK {α β : Type} (f : Nat → α → β) : Nat → List α → List β
  | _, [] => []
  | k, t :: r => f k t :: mapK f (k + 1) r
theorem mapK_snoc {α β : Type} (f : Nat → α → β) (x : α) : ∀ (l : List α) (k : Nat), mapK f k (l ++ [x]) = mapK f k l ++ [f (k + l.length) x]
  | [], k => by simp [mapK]
  | t :: r, k => by
    rw [List.cons_append, mapK, mapK, mapK_snoc f x r (k + 1), List.cons_append, List.length_cons, show k + 1 + r.length = k + (r.length + 1) by omega]
theorem mapK_step {α β : Type} (f : Nat → α → β) {l : List α} {k : Nat} {x : α} (h : l[k]? = some x) : mapK f 0 (l.take (k + 1)) = mapK f 0 (l.take k) ++ [f k x] := by
  have hk : k < l.length := (List.getElem?_eq_some_iff.1 h).1
  rw [take_step h, mapK_snoc, List.length_take, Nat.min_eq_left (by omega), Nat.zero_add]
theorem mapK_length {α β : Type} (f : Nat → α → β) : ∀ (l : List α) (k : Nat), (mapK f k l).length = l.length
  | [], _ => rfl
  | _ :: r, k => by rw [mapK, List.length_cons, mapK_length f r, List.length_cons]
theorem mapCat_mapK {α β : Type} (g : Nat → β → List UInt8) (f : Nat → α → β) : ∀ (l : List α) (k : Nat), mapCat g k (mapK f k l) = mapCat (fun k t => g k (f k t)) k l
  | [], _ => rfl
  | x :: l, k => by rw [mapK, mapCat, mapCat, mapCat_mapK g f l (k + 1)]
theorem mapCat_map {α β : Type} (g : Nat → β → List UInt8) (f : α → β) : ∀ (l : List α) (k : Nat), mapCat g k (l.map f) = mapCat (fun k t => g k (f t)) k l
  | [], _ => rfl
  | x :: l, k => by rw [List.map_cons, mapCat, mapCat, mapCat_map g f l (k + 1)]
def linesT (st : StyleV) (items : List (ByteArray × Nat)) (i : Nat) (x : ByteArray × Nat) : List (List UInt8) := mapK (lineT st items i x.2) 0 (textsT st x.1)
def sepT (i k : Nat) (t : List UInt8) : List UInt8 := (if 0 < i ∨ 0 < k then [10] else []) ++ t
def drawnT (st : StyleV) (items : List (ByteArray × Nat)) : List UInt8 := mapCat (fun i x => mapCat (sepT i) 0 (linesT st items i x)) 0 items

/-- Styles that the statements speak of. -/
def fieldB (x : ByteArray) : Bool := decide (x.size ≤ 20) && simpleB x false
def lsStyledB (st : StyleV) : Bool := ([st.single, st.top, st.first, st.middle, st.vert, st.bottom, st.pfx].all fieldB) && ((runes st.vert).all (fun r => !wideB r) && (decide (st.fmt = 0) && decide (bl st.newline = [10])))
def styledB (st : StyleV) : Bool := lsStyledB { st with newline := ⟨#[10]⟩ } && (decide (bl st.newline ≠ []) && (decide (st.newline.size ≤ 20) && (decide (bl st.newline = [10]) || simpleB st.newline false)))

theorem bullet_eq (st : StyleV) (items : List (ByteArray × Nat)) (i lv : Nat) : bulletS st (hintOf items i lv) = bulletT st i (moreB lv (items.drop (i + 1))) (firstB items i lv) := by
  unfold bulletS bulletT hintOf
  dsimp only
  have hend : i + 1 = items.length → moreB lv (items.drop (i + 1)) = false := fun e => moreB_end (by omega)
  have h0 : i = 0 → firstB items i lv = true := by intro e; subst e; rfl
  generalize moreB lv (items.drop (i + 1)) = m at *
  generalize firstB items i lv = f at *
  by_cases hi : i = 0
  · have hf := h0 hi
    subst hf
    cases m <;> simp [hi]
  · cases f
    · cases m
      · simp [hi]
      · have : ¬ i + 1 = items.length := fun e => by have := hend e; cases this
        simp [hi, this]
    · cases m <;> simp [hi]

theorem no10_of {s : ByteArray} (h : simpleB s false = true) : ∀ b ∈ bl s, b ≠ 10 := by
  intro b hb e
  subst e
  have h1 := byte_in_runes hb (by decide)
  have h2 := simple_range h _ h1
  exact absurd (h2.2.2 rfl) (by simp)
theorem texts_eq {st : StyleV} {t : ByteArray} (hn : bl st.newline = [10] ∨ ∀ b ∈ bl st.newline, b ≠ 10) (ht : simpleB t true = true) : textsT st t = splitL [10] (bl (textD st t)) := by
  have hl := lines_split (simple_enc ht)
  unfold textsT textD
  rw [hl]
  by_cases h : bl st.newline = [10]
  · rw [if_neg (by simp [h]), if_neg (fun e => e.2 h)]
  · have hn2 := hn.resolve_left h
    rw [if_pos h]
    by_cases hz : 0 ≤ zfind t ⟨#[10]⟩ 0
    · rw [if_pos ⟨hz, h⟩, bl_mk, splitL_one (replL_no10 hn2 _), replL_join]
    · rw [if_neg (fun e => hz e.1)]
      rcases zfind_spec t ⟨#[10]⟩ [] (by decide) 0 (Nat.zero_le _) with ⟨_, _, hs⟩ | ⟨i, hi, _⟩
      · rw [List.drop_zero] at hs
        have hs' : splitL [10] (bl t) = [bl t] := hs
        rw [hs']
        simp [joinT, mapCat]
      · omega
theorem link_eq {st : StyleV} (hv : ∀ r ∈ runes st.vert, r ≠ 10 ∧ wideB r = false) (items : List (ByteArray × Nat)) (i lv : Nat) : linkT st items i lv = linkD st items i lv := by
  unfold linkT linkD spacesT spacesOf
  rw [width_count _ hv, runeCount_runes]
theorem ahead_eq {st : StyleV} (hv : ∀ r ∈ runes st.vert, r ≠ 10 ∧ wideB r = false) (items : List (ByteArray × Nat)) (i lv : Nat) : aheadT st items i lv = aheadD st items i lv := by
  unfold aheadT aheadD
  congr 2
  funext k
  exact link_eq hv items i k

/-- What the reference draws is what the list draws. -/
theorem drawn_eq {st : StyleV} {items : List (ByteArray × Nat)} (hv : ∀ r ∈ runes st.vert, r ≠ 10 ∧ wideB r = false) (hn : bl st.newline = [10] ∨ ∀ b ∈ bl st.newline, b ≠ 10) (ht : ∀ x ∈ items, simpleB x.1 true = true) : drawnT st items = drawD st items := by
  unfold drawnT drawD
  refine mapCat_congr _ _ (fun i x _ hx => ?_)
  unfold linesT itemD linesOf
  rw [mapCat_mapK, mapCat_map, ← texts_eq hn (ht x hx)]
  have hne : textsT st x.1 ≠ [] := by rw [texts_eq hn (ht x hx)]; exact splitL_ne 10 _
  have hlink : bulletD st (hintOf items i x.2) = fun k => if k = 0 then bl (bulletT st i (moreB x.2 (items.drop (i + 1))) (firstB items i x.2)) ++ [32] else linkT st items i x.2 := by
    funext k
    unfold bulletD
    rw [bullet_eq]
    by_cases hk : k = 0
    · rw [if_neg (by omega), if_pos hk]
    · rw [if_pos (by omega), if_neg hk, link_eq hv]
      unfold linkD hintOf
      dsimp only
      cases moreB x.2 (items.drop (i + 1)) <;> rfl
  cases hT : textsT st x.1 with
  | nil => exact absurd hT hne
  | cons a r =>
    rw [mapCat, mapCat]
    have e0 : sepT i 0 (lineT st items i x.2 0 a) = (if 0 < i then [10] else []) ++ lineD st items i x.2 0 (mkB a) := by
      unfold sepT lineT lineD
      rw [hlink, ahead_eq hv, show bl (mkB a) = a from rfl]
      by_cases hi : 0 < i <;> simp [hi]
    rw [e0, List.append_assoc]
    congr 2
    refine mapCat_congr _ _ (fun k t hk _ => ?_)
    unfold sepT lineT lineD
    rw [hlink, ahead_eq hv, show bl (mkB t) = t from rfl]
    have : 0 < k := by omega
    simp [this]

/-- What is known of a style that the statements speak of. -/
theorem styled_facts {st : StyleV} (h : styledB st = true) : styleSmall st ∧ (∀ r ∈ runes st.vert, r ≠ 10 ∧ wideB r = false) ∧ (bl st.newline = [10] ∨ ∀ b ∈ bl st.newline, b ≠ 10) ∧ (∀ b ∈ bl st.pfx, b ≠ 10) ∧ simpleB st.pfx false = true := by
  unfold styledB lsStyledB at h
  simp only [Bool.and_eq_true, List.all_cons, List.all_nil, Bool.and_true, decide_eq_true_eq, Bool.or_eq_true] at h
  obtain ⟨⟨⟨h1, h2, h3, h4, h5, h6, h7⟩, hv, hf, _⟩, hn0, hn1, hn2⟩ := h
  have key : ∀ x, fieldB x = true → x.size ≤ 20 ∧ simpleB x false = true := by
    intro x hx
    unfold fieldB at hx
    simpa using hx
  refine ⟨⟨hf, (key _ h1).1, (key _ h2).1, (key _ h3).1, (key _ h4).1, (key _ h5).1, (key _ h6).1, hn1, (key _ h7).1⟩, ?_, ?_, no10_of (key _ h7).2, (key _ h7).2⟩
  · intro r hr
    have a := simple_range (key _ h5).2 r hr
    have b := List.all_eq_true.1 hv r hr
    exact ⟨fun e => absurd (a.2.2 e) (by simp), by simpa using b⟩
  · rcases hn2 with h | h
    · exact Or.inl h
    · exact Or.inr (no10_of h)
theorem played_texts {p : ByteArray → Prop} {l : List Step} (h : ∀ s ∈ l, p s.text ∧ ∀ t ∈ s.texts, p t) : ∀ x ∈ played l, p x.1 := by
  have key : ∀ (l : List Step) (st : List (ByteArray × Nat) × Nat), (∀ x ∈ st.1, p x.1) → (∀ s ∈ l, p s.text ∧ ∀ t ∈ s.texts, p t) → ∀ x ∈ (l.foldl playStep st).1, p x.1 := by
    intro l
    induction l with
    | nil => intro st h _; exact h
    | cons s l ih =>
      intro st hst hl
      rw [List.foldl_cons]
      refine ih _ ?_ (fun s hs => hl s (by simp [hs]))
      have hs := hl s (by simp)
      unfold playStep
      split
      · intro x hx
        rcases List.mem_append.1 hx with h1 | h1
        · exact hst x h1
        · simp at h1; subst h1; exact hs.1
      · split
        · intro x hx
          rcases List.mem_append.1 hx with h1 | h1
          · exact hst x h1
          · obtain ⟨t, ht, rfl⟩ := List.mem_map.1 h1; exact hs.2 t ht
        · split
          · split <;> exact hst
          · split
            · exact hst
            · split
              · exact hst
              · split
                · intro x hx; cases hx
                · exact hst
  exact key l _ (by intro x hx; cases hx) h
theorem right_simple {l : List Step} (h : rightB l = true) : ∀ x ∈ played l, simpleB x.1 true = true := by
  unfold rightB at h
  simp only [Bool.and_eq_true] at h
  refine played_texts (p := fun t => simpleB t true = true) (fun s hs => ?_)
  have h1 := List.all_eq_true.1 h.1 s hs
  unfold stepRightB at h1
  simp only [Bool.and_eq_true] at h1
  have key : ∀ t, textB t = true → simpleB t true = true := fun t ht => by unfold textB at ht; simp only [Bool.and_eq_true] at ht; exact ht.2
  exact ⟨key _ h1.1, fun t ht => key _ (List.all_eq_true.1 h1.2.2 t ht)⟩
end Go.Proofs.YtdkpacgbniclhaaGreatDoor
namespace Go.Proofs.YtdkpacgbniclhaaGreatDoor
open Go.RowKit

theorem mkB_app (a b : List UInt8) : mkB a ++ mkB b = mkB (a ++ b) := by apply bl_ext; rw [bl_app]; rfl
/-- A text that decodes; a line. -/
def goodL (l : List UInt8) : Prop := ∀ r ∈ runes (mkB l), r ≠ 65533
def okL (l : List UInt8) : Prop := goodL l ∧ ∀ b ∈ l, b ≠ 10
theorem goodL_nil : goodL [] := by
  intro r hr
  rw [show runes (mkB []) = [] from runesFrom_end (by decide)] at hr
  cases hr
theorem goodL_app {a b : List UInt8} (ha : goodL a) (hb : goodL b) : goodL (a ++ b) := by
  intro r hr
  rw [← mkB_app, runes_app _ _ ha] at hr
  rcases List.mem_append.1 hr with h | h
  · exact ha r h
  · exact hb r h
theorem mkB_bl (s : ByteArray) : mkB (bl s) = s := bl_ext rfl
theorem goodL_simple {s : ByteArray} {b : Bool} (h : simpleB s b = true) : goodL (bl s) := by
  intro r hr
  rw [mkB_bl] at hr
  have := simple_range h r hr
  omega
theorem okL_nil : okL [] := ⟨goodL_nil, by intro b hb; cases hb⟩
theorem okL_app {a b : List UInt8} (ha : okL a) (hb : okL b) : okL (a ++ b) := ⟨goodL_app ha.1 hb.1, fun x hx => by
  rcases List.mem_append.1 hx with h | h
  · exact ha.2 x h
  · exact hb.2 x h⟩
theorem okL_simple {s : ByteArray} (h : simpleB s false = true) : okL (bl s) := ⟨goodL_simple h, no10_of h⟩
theorem okL_field {s : ByteArray} (h : fieldB s = true) : okL (bl s) := by
  unfold fieldB at h
  simp only [Bool.and_eq_true] at h
  exact okL_simple h.2
theorem goodL_ascii {l : List UInt8} (h : ∀ b ∈ l, b.toNat < 128) : goodL l := by
  intro r hr
  rw [show mkB l = ⟨l.toArray⟩ from rfl, runes_mk l h] at hr
  obtain ⟨b, hb, rfl⟩ := List.mem_map.1 hr
  have := h b hb
  omega
theorem okL_spaces (n : Nat) : okL (Lib.repeatL [32] n) := by
  have e := Lib.repeatL_replicate 32 1 n
  rw [show (List.replicate 1 (32 : UInt8)) = [32] from rfl] at e
  rw [e]
  refine ⟨goodL_ascii fun b hb => ?_, fun b hb => ?_⟩
  · rw [List.eq_of_mem_replicate hb]; decide
  · rw [List.eq_of_mem_replicate hb]; decide
theorem okL_flat {α : Type} (f : α → List UInt8) : ∀ l : List α, (∀ x ∈ l, okL (f x)) → okL (l.flatMap f)
  | [], _ => okL_nil
  | x :: l, h => by rw [List.flatMap_cons]; exact okL_app (h x (by simp)) (okL_flat f l (fun y hy => h y (by simp [hy])))

theorem enc3 {r : Nat} (h : (2048 ≤ r ∧ r < 55296) ∨ (57343 < r ∧ r ≤ 65535)) : Lib.encodeRune (r : Int) = [UInt8.ofNat (224 + r / 4096), UInt8.ofNat (128 + r / 64 % 64), UInt8.ofNat (128 + r % 64)] := by
  unfold Lib.encodeRune
  rw [Lib.encodeRuneZ_three (by omega)]
  have e1 : (224 + (r : Int) / 4096).toNat = 224 + r / 4096 := by omega
  have e2 : (128 + (r : Int) / 64 % 64).toNat = 128 + r / 64 % 64 := by omega
  have e3 : (128 + (r : Int) % 64).toNat = 128 + r % 64 := by omega
  simp only [List.map_cons, List.map_nil, e1, e2, e3]
  try rfl
theorem runes_enc3 {r : Nat} (h : (2048 ≤ r ∧ r < 55296) ∨ (57343 < r ∧ r ≤ 65535)) : runes (mkB (Lib.encodeRune (r : Int))) = [(r : Int)] := by
  rw [enc3 h]
  have hd : Utf8.decode (mkB [UInt8.ofNat (224 + r / 4096), UInt8.ofNat (128 + r / 64 % 64), UInt8.ofNat (128 + r % 64)]) 0 = (r, 3) := by
    rw [decode_eq, get_at]
    have b1 : (UInt8.ofNat (128 + r / 64 % 64)).toNat = 128 + r / 64 % 64 := by simp; omega
    have b2 : (UInt8.ofNat (128 + r % 64)).toNat = 128 + r % 64 := by simp; omega
    have b0 : (UInt8.ofNat (224 + r / 4096)).toNat = 224 + r / 4096 := by simp; omega
    have o1 : opt (mkB [UInt8.ofNat (224 + r / 4096), UInt8.ofNat (128 + r / 64 % 64), UInt8.ofNat (128 + r % 64)]) (0 + 1) = some (128 + r / 64 % 64) := by
      show some (UInt8.ofNat (128 + r / 64 % 64)).toNat = _; rw [b1]
    have o2 : opt (mkB [UInt8.ofNat (224 + r / 4096), UInt8.ofNat (128 + r / 64 % 64), UInt8.ofNat (128 + r % 64)]) (0 + 2) = some (128 + r % 64) := by
      show some (UInt8.ofNat (128 + r % 64)).toNat = _; rw [b2]
    have g0 : (((bl (mkB [UInt8.ofNat (224 + r / 4096), UInt8.ofNat (128 + r / 64 % 64), UInt8.ofNat (128 + r % 64)]))[0]?).getD 0).toNat = 224 + r / 4096 := b0
    rw [o1, o2, g0]
    unfold dec4
    have c1 : cont (some (128 + r / 64 % 64)) = true := by simp only [cont, beq_iff_eq]; omega
    have c2 : cont (some (128 + r % 64)) = true := by simp only [cont, beq_iff_eq]; omega
    have hv : Utf8.valid ((r : Nat) : Int) = true := by simp [Utf8.valid]; omega
    have hr : (224 + r / 4096) % 16 * 4096 + (some (128 + r / 64 % 64)).getD 0 % 64 * 64 + (some (128 + r % 64)).getD 0 % 64 = r := by
      simp only [Option.getD_some]; omega
    rw [if_neg (by omega), if_neg (by simp; omega), if_pos (by rw [c1, c2]; simp; omega), hr, if_pos (by rw [hv]; simp; omega)]
  have hz : (mkB [UInt8.ofNat (224 + r / 4096), UInt8.ofNat (128 + r / 64 % 64), UInt8.ofNat (128 + r % 64)]).size = 3 := rfl
  unfold runes
  rw [runesFrom_step (by rw [hz]; decide), hd, runesFrom_end (by rw [hz]; simp)]
theorem goodL_enc {r : Int} (h : okB true r = true) : goodL (Lib.encodeRune r) := by
  unfold okB at h
  simp only [Bool.or_eq_true, Bool.and_eq_true, decide_eq_true_eq] at h
  have hr : (10 ≤ r ∧ r < 128) ∨ (9472 ≤ r ∧ r < 55296) ∨ (65281 ≤ r ∧ r ≤ 65374) := by
    rcases h with h | ⟨_, h⟩
    · simp [knownB, boxedB, wideB] at h; omega
    · omega
  rcases hr with hr | hr
  · refine goodL_ascii fun b hb => ?_
    unfold Lib.encodeRune at hb
    rw [Lib.encodeRuneZ_one (by omega) (by omega)] at hb
    simp at hb
    subst hb
    simp
    omega
  · obtain ⟨n, rfl⟩ : ∃ n : Nat, r = n := ⟨r.toNat, by omega⟩
    intro x hx
    rw [runes_enc3 (by omega)] at hx
    simp at hx
    omega

theorem step_good {L : List (List UInt8)} {r : Int} (hL : ∀ x ∈ L, goodL x) (hr : goodL (Lib.encodeRune r)) : ∀ x ∈ lineStep L r, goodL x := by
  intro x hx
  unfold lineStep at hx
  split at hx
  · rcases List.mem_append.1 hx with h | h
    · exact hL x h
    · simp at h; subst h; exact goodL_nil
  · rcases List.mem_append.1 hx with h | h
    · exact hL x (List.dropLast_subset _ h)
    · simp only [List.mem_singleton] at h
      subst h
      refine goodL_app ?_ hr
      cases L with
      | nil => exact goodL_nil
      | cons a l => rw [List.getLastD_cons]; rw [List.getLastD_eq_getLast?]; cases h : l.getLast? with
        | none => exact hL a (by simp)
        | some y => exact hL y (by simp [List.mem_of_getLast? h])
theorem lines_good : ∀ (rs : List Int) (L : List (List UInt8)), (∀ x ∈ L, goodL x) → (∀ r ∈ rs, okB true r = true) → ∀ x ∈ rs.foldl lineStep L, goodL x
  | [], L, hL, _ => hL
  | r :: rs, L, hL, h => lines_good rs _ (step_good hL (goodL_enc (h r (by simp)))) (fun x hx => h x (by simp [hx]))
theorem splitL_no10 : ∀ (l x : List UInt8), x ∈ splitL [10] l → ∀ b ∈ x, b ≠ 10
  | [], x, hx => by rw [splitL_nil] at hx; simp at hx; subst hx; intro b hb; cases hb
  | y :: l, x, hx => by
    by_cases h : y = 10
    · subst h
      rw [splitL_10] at hx
      rcases List.mem_cons.1 hx with rfl | hx
      · intro b hb; cases hb
      · exact splitL_no10 l x hx
    · rw [splitL_miss (pre10 h l)] at hx
      have ih := splitL_no10 l
      cases hs : splitL [10] l with
      | nil => exact absurd hs (splitL_ne 10 l)
      | cons a r =>
        rw [hs] at hx ih
        rcases List.mem_cons.1 hx with rfl | hx
        · intro b hb
          rcases List.mem_cons.1 hb with rfl | hb
          · exact h
          · exact ih a (by simp) b hb
        · exact ih x (by simp [hx])
theorem lines_ok {t : ByteArray} (h : simpleB t true = true) : ∀ x ∈ linesL (runes t), okL x := by
  intro x hx
  refine ⟨lines_good (runes t) [[]] (by intro y hy; simp at hy; subst hy; exact goodL_nil) (fun r hr => ?_) x hx, ?_⟩
  · have := List.all_eq_true.1 h r hr; exact this
  · rw [lines_split (simple_enc h)] at hx
    exact splitL_no10 _ x hx
theorem joinT_cons (nl x : List UInt8) (r : List (List UInt8)) : joinT nl (x :: r) = x ++ r.flatMap (nl ++ ·) := by
  have key : ∀ (r : List (List UInt8)) (k : Nat), 0 < k → mapCat (fun k x => (if 0 < k then nl else []) ++ x) k r = r.flatMap (nl ++ ·) := by
    intro r
    induction r with
    | nil => intro k _; rfl
    | cons a r ih => intro k hk; rw [mapCat, ih (k + 1) (by omega), List.flatMap_cons, if_pos hk]
  unfold joinT
  rw [mapCat, key r _ (by omega)]
  simp
theorem okL_join {nl : List UInt8} (hn : okL nl) : ∀ l : List (List UInt8), (∀ x ∈ l, okL x) → okL (joinT nl l)
  | [], _ => okL_nil
  | x :: r, h => by
    rw [joinT_cons]
    exact okL_app (h x (by simp)) (okL_flat _ r (fun y hy => okL_app hn (h y (by simp [hy]))))
theorem goodL_join {nl : List UInt8} (hn : goodL nl) : ∀ l : List (List UInt8), (∀ x ∈ l, goodL x) → goodL (joinT nl l)
  | [], _ => goodL_nil
  | x :: r, h => by
    rw [joinT_cons]
    refine goodL_app (h x (by simp)) ?_
    have hr : ∀ y ∈ r, goodL y := fun y hy => h y (by simp [hy])
    clear h
    induction r with
    | nil => exact goodL_nil
    | cons a r ih => rw [List.flatMap_cons]; exact goodL_app (goodL_app hn (hr a (by simp))) (ih (fun y hy => hr y (by simp [hy])))
theorem split_join : ∀ (x : List UInt8) (r : List (List UInt8)), (∀ y ∈ x :: r, ∀ b ∈ y, b ≠ 10) → splitL [10] (joinT [10] (x :: r)) = x :: r
  | x, [], h => by rw [joinT_cons]; simp only [List.flatMap_nil, List.append_nil]; exact splitL_one (h x (by simp))
  | x, y :: r, h => by
    have ih := split_join y r (fun z hz => h z (by simp [List.mem_cons.1 hz]))
    rw [joinT_cons] at ih ⊢
    rw [List.flatMap_cons, splitL_pre _ _ (h x (by simp)), List.append_assoc, List.cons_append, List.nil_append, splitL_10, ih]
    show (x ++ []) :: _ = _
    rw [List.append_nil]

/-- All lines of what is drawn. -/
def allT (st : StyleV) (items : List (ByteArray × Nat)) : List (List UInt8) := (mapK (linesT st items) 0 items).flatten
theorem texts_ne (st : StyleV) (t : ByteArray) : textsT st t ≠ [] := by
  unfold textsT
  split
  · simp
  · exact lines_ne _
theorem mapK_ne {α β : Type} (f : Nat → α → β) {l : List α} (k : Nat) (h : l ≠ []) : mapK f k l ≠ [] := by
  cases l with
  | nil => exact absurd rfl h
  | cons a r => simp [mapK]
theorem sep_pos {i : Nat} (L : List (List UInt8)) : ∀ k : Nat, 0 < i ∨ 0 < k → mapCat (sepT i) k L = L.flatMap ([10] ++ ·) := by
  induction L with
  | nil => intro k _; rfl
  | cons a r ih => intro k hk; rw [mapCat, ih (k + 1) (by omega), List.flatMap_cons]; unfold sepT; rw [if_pos hk]
theorem sep_zero {a : List UInt8} {r : List (List UInt8)} : mapCat (sepT 0) 0 (a :: r) = joinT [10] (a :: r) := by
  rw [joinT_cons, mapCat, sep_pos r (0 + 1) (by omega)]
  unfold sepT
  simp
theorem drawn_join (st : StyleV) (items : List (ByteArray × Nat)) (hne : items ≠ []) : drawnT st items = joinT [10] (allT st items) := by
  have key : ∀ (l : List (ByteArray × Nat)) (i : Nat), 0 < i → mapCat (fun i x => mapCat (sepT i) 0 (linesT st items i x)) i l = ((mapK (linesT st items) i l).flatten).flatMap ([10] ++ ·) := by
    intro l
    induction l with
    | nil => intro i _; rfl
    | cons x l ih => intro i hi; rw [mapCat, ih (i + 1) (by omega), mapK, List.flatten_cons, List.flatMap_append, sep_pos _ 0 (Or.inl hi)]
  unfold drawnT allT
  generalize hl : linesT st items = f at *
  cases hit : items with
  | nil => exact absurd hit hne
  | cons x l =>
    rw [mapCat, mapK, key l _ (by omega), List.flatten_cons]
    cases hf : f 0 x with
    | nil =>
      rw [← hl] at hf
      exact absurd hf (mapK_ne _ 0 (texts_ne st x.1))
    | cons a r => rw [sep_zero, List.cons_append, joinT_cons, joinT_cons, List.flatMap_append, List.append_assoc]

/-- What a style must be for its lines to be lines. -/
structure OkStyle (st : StyleV) : Prop where
  single : okL (bl st.single)
  top : okL (bl st.top)
  first : okL (bl st.first)
  middle : okL (bl st.middle)
  vert : okL (bl st.vert)
  bottom : okL (bl st.bottom)
  pfx : okL (bl st.pfx)
  newline : bl st.newline = [10] ∨ okL (bl st.newline)
theorem styled_ok {st : StyleV} (h : styledB st = true) : OkStyle st := by
  unfold styledB lsStyledB at h
  simp only [Bool.and_eq_true, List.all_cons, List.all_nil, Bool.and_true, decide_eq_true_eq, Bool.or_eq_true] at h
  obtain ⟨⟨⟨h1, h2, h3, h4, h5, h6, h7⟩, hv, hf, _⟩, hn0, hn1, hn2⟩ := h
  exact ⟨okL_field h1, okL_field h2, okL_field h3, okL_field h4, okL_field h5, okL_field h6, okL_field h7, hn2.imp id okL_simple⟩
theorem texts_ok {st : StyleV} (hs : OkStyle st) {t : ByteArray} (h : simpleB t true = true) : ∀ x ∈ textsT st t, okL x := by
  intro x hx
  unfold textsT at hx
  split at hx
  · next hn =>
    simp only [List.mem_singleton] at hx
    subst hx
    exact okL_join (hs.newline.resolve_left hn) _ (lines_ok h)
  · exact lines_ok h x hx
theorem link_ok {st : StyleV} (hs : OkStyle st) (items : List (ByteArray × Nat)) (i lv : Nat) : okL (linkT st items i lv) := by
  unfold linkT
  split
  · exact hs.vert
  · exact okL_spaces _
theorem bullet_ok {st : StyleV} (hs : OkStyle st) (i : Nat) (m f : Bool) : okL (bl (bulletT st i m f)) := by
  unfold bulletT
  split
  · exact hs.single
  · split
    · exact hs.top
    · split
      · exact hs.bottom
      · split
        · exact hs.first
        · exact hs.middle
theorem line_ok {st : StyleV} (hs : OkStyle st) (items : List (ByteArray × Nat)) (i lv k : Nat) {t : List UInt8} (ht : okL t) : okL (lineT st items i lv k t) := by
  unfold lineT aheadT
  refine okL_app (okL_app hs.pfx (okL_flat _ _ (fun x _ => link_ok hs items i x))) (okL_app ?_ ht)
  split
  · exact okL_app (bullet_ok hs _ _ _) (okL_spaces 1)
  · exact link_ok hs items i lv
theorem mapK_mem {α β : Type} {f : Nat → α → β} {y : β} : ∀ {l : List α} {k : Nat}, y ∈ mapK f k l → ∃ j x, x ∈ l ∧ y = f j x
  | [], _, h => by cases h
  | x :: l, k, h => by
    rcases List.mem_cons.1 h with rfl | h
    · exact ⟨k, x, by simp, rfl⟩
    · obtain ⟨j, z, hz, e⟩ := mapK_mem h; exact ⟨j, z, by simp [hz], e⟩
theorem all_ok {st : StyleV} (hs : OkStyle st) {items : List (ByteArray × Nat)} (ht : ∀ x ∈ items, simpleB x.1 true = true) : ∀ x ∈ allT st items, okL x := by
  intro x hx
  obtain ⟨L, hL, hx⟩ := List.mem_flatten.1 hx
  obtain ⟨i, it, hit, rfl⟩ := mapK_mem hL
  obtain ⟨k, t, htx, rfl⟩ := mapK_mem hx
  exact line_ok hs items i it.2 k (texts_ok hs (ht it hit) t htx)
theorem all_ne {st : StyleV} {items : List (ByteArray × Nat)} (hne : items ≠ []) : allT st items ≠ [] := by
  cases hit : items with
  | nil => exact absurd hit hne
  | cons x l =>
    unfold allT
    rw [mapK, List.flatten_cons]
    have := mapK_ne (lineT st (x :: l) 0 x.2) 0 (texts_ne st x.1)
    unfold linesT
    intro e
    rw [List.append_eq_nil_iff] at e
    exact this e.1

/-- The lines of what is drawn. -/
theorem drawn_lines {st : StyleV} {items : List (ByteArray × Nat)} (hs : OkStyle st) (ht : ∀ x ∈ items, simpleB x.1 true = true) (hne : items ≠ []) : linesL (runes (mkB (drawnT st items))) = allT st items := by
  have hok := all_ok hs ht
  have hgood : goodL (drawnT st items) := by
    rw [drawn_join st items hne]
    exact goodL_join (goodL_ascii (by intro b hb; simp at hb; subst hb; decide)) _ (fun x hx => (hok x hx).1)
  rw [lines_split (enc_all hgood), show bl (mkB (drawnT st items)) = drawnT st items from rfl, drawn_join st items hne]
  cases h : allT st items with
  | nil => exact absurd h (all_ne hne)
  | cons x r => rw [h] at hok; exact split_join x r (fun y hy => (hok y hy).2)

/-- A prefix stands ahead of each line. -/
theorem mapK_map {α β γ : Type} (g : β → γ) (f : Nat → α → β) : ∀ (l : List α) (k : Nat), (mapK f k l).map g = mapK (fun k x => g (f k x)) k l
  | [], _ => rfl
  | x :: l, k => by rw [mapK, mapK, List.map_cons, mapK_map g f l]
theorem flat_map {α β : Type} (g : α → β) : ∀ L : List (List α), L.flatten.map g = (L.map (List.map g)).flatten
  | [] => rfl
  | x :: L => by rw [List.flatten_cons, List.map_append, flat_map g L, List.map_cons, List.flatten_cons]
theorem all_prefix (st : StyleV) (items : List (ByteArray × Nat)) : allT st items = (allT { st with pfx := ⟨#[]⟩ } items).map (bl st.pfx ++ ·) := by
  have hl : ∀ i lv k t, lineT st items i lv k t = bl st.pfx ++ lineT { st with pfx := ⟨#[]⟩ } items i lv k t := by
    intro i lv k t
    show (bl st.pfx ++ _) ++ _ = bl st.pfx ++ (([] ++ _) ++ _)
    rw [List.append_assoc, List.nil_append]
    rfl
  unfold allT
  rw [flat_map, mapK_map]
  congr 2
  funext i x
  unfold linesT
  rw [mapK_map]
  show mapK (lineT st items i x.2) 0 (textsT st x.1) = mapK _ 0 (textsT st x.1)
  congr 1
  funext k t
  exact hl i x.2 k t
theorem mapK_sum {α : Type} (f : Nat → α → List (List UInt8)) (g : α → Nat) (h : ∀ k x, (f k x).length = g x) : ∀ (l : List α) (k : Nat), ((mapK f k l).flatten).length = (l.map g).sum
  | [], _ => rfl
  | x :: l, k => by rw [mapK, List.flatten_cons, List.length_append, mapK_sum f g h l, List.map_cons, List.sum_cons, h]
theorem all_count (st : StyleV) (items : List (ByteArray × Nat)) : (allT st items).length = (items.map fun x => (textsT st x.1).length).sum :=
  mapK_sum _ _ (fun k x => by unfold linesT; rw [mapK_length]) items 0
end Go.Proofs.YtdkpacgbniclhaaGreatDoor
namespace Go.Proofs.YtdkpacgbniclhaaGreatDoor
open Go.RowKit

/-- A slice of items that is read. -/
def ItemsAt (w : World) (B : Nat) (A : Option Addr) (n c : Nat) (l : List (ByteArray × Nat)) : Prop :=
  ∃ xs, Rd w B 2 A n c xs ∧ l.length = n ∧ ∀ k x, l[k]? = some x → xs[2 * k]? = some (.string x.1) ∧ xs[2 * k + 1]? = some (.int .i64 x.2)
section
variable {w w' : World} {B B' n c k : Nat} {A : Option Addr} {l : List (ByteArray × Nat)}
theorem ItemsAt.below (h : ItemsAt w B A n c l) (hb : Below B w w') : ItemsAt w' B A n c l := by
  obtain ⟨xs, h1, h2, h3⟩ := h; exact ⟨xs, h1.below hb, h2, h3⟩
theorem ItemsAt.more (h : ItemsAt w B A n c l) (hB : B ≤ B') : ItemsAt w B' A n c l := by
  obtain ⟨xs, h1, h2, h3⟩ := h; exact ⟨xs, h1.more hB, h2, h3⟩
theorem ItemsAt.len (h : ItemsAt w B A n c l) : l.length = n := by obtain ⟨xs, _, h2, _⟩ := h; exact h2
theorem ItemsAt.cap (h : ItemsAt w B A n c l) : n ≤ c ∧ c ≤ 9223372036854775807 := by obtain ⟨xs, h1, _⟩ := h; exact ⟨h1.cap, h1.small⟩
theorem ItemsAt.at_ (h : ItemsAt w B A n c l) (hk : k < n) :
    ∃ ad x, A = some ad ∧ ad.block < B ∧ l[k]? = some x ∧ w.cell? (ad.add (k * 2)) = some (.string x.1) ∧ w.cell? ⟨(ad.add (k * 2)).block, (ad.add (k * 2)).off + 1, none⟩ = some (.int .i64 x.2) := by
  obtain ⟨xs, h1, h2, h3⟩ := h
  obtain ⟨ad, e, hb, hc⟩ := h1.cells (by omega)
  obtain ⟨a, b⟩ := h3 k l[k] (List.getElem?_eq_getElem (by omega))
  exact ⟨ad, l[k], e, hb, List.getElem?_eq_getElem (by omega), by rw [Nat.mul_comm k 2]; exact hc _ _ a, by rw [← add_step, Nat.mul_comm k 2]; exact hc _ _ b⟩
end

end Go.Proofs.YtdkpacgbniclhaaGreatDoor
namespace Go.Proofs.YtdkpacgbniclhaaGreatDoor
open Go.RowKit

theorem width_le : ∀ l : List Int, widthR l ≤ 2 * l.length
  | [] => Nat.le_refl _
  | r :: l => by
    have ih := width_le l
    have := colsN_le r
    unfold widthR at ih ⊢
    rw [List.map_cons, List.sum_cons, List.length_cons]
    split <;> omega
theorem widthS_le (s : ByteArray) : widthR (runes s) ≤ 2 * s.size := by
  have h1 := width_le (runes s)
  have h2 := runes_length s
  omega

theorem link_size {st : StyleV} {items : List (ByteArray × Nat)} {i lv : Nat} (hv : st.vert.size ≤ 20) : (linkT st items i lv).length ≤ 40 := by
  unfold linkT spacesT
  split
  · rw [bl_size]; omega
  · rw [Lib.repeatL_length]
    have := widthS_le st.vert
    simp
    omega

def bulletV (st : StyleV) : Bool → Bool → Bool → ByteArray
  | true, false, true => st.single
  | _, _, true => st.top
  | _, false, _ => st.bottom
  | true, _, _ => st.first
  | _, _, _ => st.middle
theorem bulletV_eq (st : StyleV) (i : Nat) (m f : Bool) : bulletT st i m f = bulletV st f m (decide (i = 0)) := by
  unfold bulletT
  by_cases h0 : i = 0
  · cases f <;> cases m <;> simp [h0, bulletV]
  · cases f <;> cases m <;> simp [h0, bulletV]
end Go.Proofs.YtdkpacgbniclhaaGreatDoor
namespace Go.Proofs.YtdkpacgbniclhaaGreatDoor
open Go.RowKit

/-- A cell of a row of the call's own is written. -/
theorem own_set {w : World} {base e n k g cap : Nat} {xs : List Value} (h : w.ownsRow base e 1 (.slice (some ⟨g, 0, none⟩) n cap) n xs) (u : Value) : (w.setCell ⟨g, k, none⟩ u).ownsRow base e 1 (.slice (some ⟨g, 0, none⟩) n cap) n (xs.set k u) := by
  obtain ⟨h1, h2⟩ := h
  refine ⟨by rw [List.length_set]; exact h1, ?_⟩
  rcases h2 with ⟨h2, _⟩ | ⟨g', cap', cur, hv, hg, hh, hn, hm, hs, ht⟩
  · cases h2
  · injection hv with e1 e2 e3
    injection e1 with e1
    injection e1 with e1
    subst e1 e3
    refine Or.inr ⟨g, cap, cur.setIfInBounds k u, rfl, hg, heap_setCell_same w g k _ _ u hh, hn, hm, by rw [Array.size_setIfInBounds]; exact hs, ?_⟩
    rw [Array.toList_setIfInBounds, List.take_set, ht]
theorem own_frozen {w : World} {base e n k g cap : Nat} {xs : List Value} (h : w.ownsRow base e 1 (.slice (some ⟨g, 0, none⟩) n cap) n xs) : w.frozen? ⟨g, k, none⟩ = false := by
  rcases h.2 with ⟨h2, _⟩ | ⟨g', cap', cur, hv, hg, hh, _⟩
  · cases h2
  · injection hv with e1 e2 e3
    injection e1 with e1
    injection e1 with e1
    subst e1
    exact blk_frozen hh k
theorem own_blk_at {w : World} {base e n g cap : Nat} {xs : List Value} (h : w.ownsRow base e 1 (.slice (some ⟨g, 0, none⟩) n cap) n xs) : base ≤ g := (World.ownsRow.lt h g rfl).1
theorem own_iter' {w w' : World} {base e size n K pos : Nat} {v : Value} {xs : List Value} {s : ByteArray} (h : w.ownsRow base e size v n xs) (hit : w.heap[K]? = some (.stringIter s pos)) (ho : ∀ j, j ≠ K → w'.heap[j]? = w.heap[j]?) : w'.ownsRow base e size v n xs := by
  obtain ⟨h1, h2⟩ := h
  refine ⟨h1, ?_⟩
  rcases h2 with h2 | ⟨g, cap, cur, hv, hg, hh, r⟩
  · exact Or.inl h2
  · exact Or.inr ⟨g, cap, cur, hv, hg, by rw [ho g (by intro e; subst e; rw [hit] at hh; cases hh)]; exact hh, r⟩
theorem own_notIter' {w : World} {base e size n K pos : Nat} {v : Value} {xs : List Value} {s : ByteArray} (h : w.ownsRow base e size v n xs) (hit : w.heap[K]? = some (.stringIter s pos)) : some K ≠ v.ownBlock := by
  rcases h.2 with ⟨rfl, _⟩ | ⟨g, cap, cur, rfl, _, hh, _⟩
  · simp [Value.ownBlock]
  · intro he
    have : K = g := by simpa [Value.ownBlock] using he
    subst this
    rw [hit] at hh
    cases hh
theorem nums_back : ∀ l : List UInt8, (Extern.FmtText.nums l).map (fun x => x.toNat.toUInt8) = l
  | [] => rfl
  | b :: l => by
    have ih := nums_back l
    unfold Extern.FmtText.nums at ih ⊢
    rw [List.map_cons, List.map_cons, ih]
    congr 1
    rw [Int.toNat_natCast]
    exact UInt8.ofNat_toNat
theorem enc_mk (r : Int) (h : 0 ≤ r) : Utf8.encode r = mkB (Lib.encodeRune r) := by
  obtain ⟨n, hn⟩ : ∃ n : Nat, r = n := ⟨r.toNat, by omega⟩
  have h1 := Extern.FmtText.encode_eq n
  rw [← hn] at h1
  generalize Utf8.encode r = e at *
  apply bl_ext
  unfold Lib.encodeRune
  rw [← h1, nums_back]
  rfl
theorem encode_len (r : Int) : (Lib.encodeRune r).length ≤ 4 := by
  rw [← Lib.runeCells_length]; exact (Lib.runeCells_le r).2

/-- Lines of the program's own make. -/
def OwnLines (w : World) (B : Nat) (v : Value) (L : List (List UInt8)) : Prop := w.ownsRow B 9 1 v L.length ((L.map mkB).map Value.string)
theorem OwnLines.strs {w : World} {B : Nat} {v : Value} {L : List (List UInt8)} (h : OwnLines w B v L) : OwnStrs w B v (L.map mkB) := by
  unfold OwnStrs; rw [List.length_map]; exact h

end Go.Proofs.YtdkpacgbniclhaaGreatDoor
namespace Go.Proofs.YtdkpacgbniclhaaGreatDoor
open Go.RowKit

theorem fold_bound : ∀ (rs : List Int) (L : List (List UInt8)) (m : Nat), (∀ x ∈ L, x.length ≤ m) → (rs.foldl lineStep L).length ≤ L.length + rs.length + 1 ∧ ∀ x ∈ rs.foldl lineStep L, x.length ≤ m + 4 * rs.length
  | [], L, m, h => ⟨by simp, fun x hx => by have := h x hx; simp; omega⟩
  | r :: rs, L, m, h => by
    have h1 : (lineStep L r).length ≤ L.length + 1 := by
      unfold lineStep
      split
      · simp
      · simp
        try omega
    by_cases hL : L = [] ∧ ¬ r = 10
    · obtain ⟨rfl, h10⟩ := hL
      have h2 : ∀ x ∈ lineStep [] r, x.length ≤ m + 4 := by
        intro x hx
        unfold lineStep at hx
        rw [if_neg h10] at hx
        simp at hx
        subst hx
        have := encode_len r
        omega
      obtain ⟨a, b⟩ := fold_bound rs (lineStep [] r) (m + 4) h2
      have h3 : (lineStep [] r).length ≤ 1 := by unfold lineStep; rw [if_neg h10]; simp
      exact ⟨by rw [List.foldl_cons]; simp at a ⊢; omega, fun x hx => by rw [List.foldl_cons] at hx; have := b x hx; simp; omega⟩
    · have h2 : ∀ x ∈ lineStep L r, x.length ≤ m + 4 := by
        intro x hx
        unfold lineStep at hx
        split at hx
        · rcases List.mem_append.1 hx with h3 | h3
          · have := h x h3; omega
          · simp at h3; subst h3; simp
        · next h10 =>
          have hne : L ≠ [] := fun e => hL ⟨e, h10⟩
          rcases List.mem_append.1 hx with h3 | h3
          · have := h x (List.dropLast_subset _ h3); omega
          · simp only [List.mem_singleton] at h3
            subst h3
            have h4 := encode_len r
            have h5 : (L.getLastD []).length ≤ m := by
              rw [List.getLastD_eq_getLast?, List.getLast?_eq_some_getLast hne]
              exact h _ (List.getLast_mem hne)
            rw [List.length_append]
            omega
      obtain ⟨a, b⟩ := fold_bound rs (lineStep L r) (m + 4) h2
      have h3 : (lineStep L r).length ≤ L.length + 1 := h1
      exact ⟨by rw [List.foldl_cons, List.length_cons]; omega, fun x hx => by rw [List.foldl_cons] at hx; have := b x hx; rw [List.length_cons]; omega⟩
theorem lines_small {t : ByteArray} (h : t.size ≤ 1000) : (linesL (runes t)).length ≤ 1002 ∧ ∀ x ∈ linesL (runes t), x.length ≤ 4000 := by
  obtain ⟨a, b⟩ := fold_bound (runes t) [[]] 0 (by intro x hx; simp at hx; subst hx; simp)
  have := runes_length t
  exact ⟨by simp at a; unfold linesL; omega, fun x hx => by have := b x hx; omega⟩
theorem joinK_le {nl : List UInt8} (hn : nl.length ≤ 20) : ∀ (l : List (List UInt8)) (k : Nat), (∀ x ∈ l, x.length ≤ 4000) → (mapCat (fun k x => (if 0 < k then nl else []) ++ x) k l).length ≤ 4020 * l.length
  | [], _, _ => by simp [mapCat]
  | x :: l, k, h => by
    have ih := joinK_le hn l (k + 1) (fun y hy => h y (by simp [hy]))
    have h1 := h x (by simp)
    rw [mapCat, List.length_append, List.length_append, List.length_cons]
    have h2 : (if 0 < k then nl else []).length ≤ 20 := by split <;> first | omega | (simp; done) | (simp; omega)
    omega
theorem texts_small {st : StyleV} {t : ByteArray} (hn : st.newline.size ≤ 20) (h : t.size ≤ 1000) : (textsT st t).length ≤ 1002 ∧ ∀ x ∈ textsT st t, x.length ≤ 5000000 := by
  obtain ⟨a, b⟩ := lines_small h
  unfold textsT
  split
  · refine ⟨by simp, fun x hx => ?_⟩
    simp only [List.mem_singleton] at hx
    subst hx
    have := joinK_le (nl := bl st.newline) (by rw [bl_size]; exact hn) (linesL (runes t)) 0 b
    unfold joinT
    omega
  · exact ⟨a, fun x hx => by have := b x hx; omega⟩
theorem ahead_size {st : StyleV} (hv : st.vert.size ≤ 20) (hp : st.pfx.size ≤ 20) (items : List (ByteArray × Nat)) (i lv : Nat) : (aheadT st items i lv).length ≤ 20 + 40 * lv := by
  unfold aheadT
  rw [List.length_append, bl_size]
  have key : ∀ l : List Nat, (l.flatMap (linkT st items i)).length ≤ 40 * l.length := by
    intro l
    induction l with
    | nil => simp
    | cons a l ih => rw [List.flatMap_cons, List.length_append, List.length_cons]; have := link_size (items := items) (i := i) (lv := a) hv; omega
  have := key (List.range lv)
  rw [List.length_range] at this
  omega
theorem bulletT_size {st : StyleV} (hs : styleSmall st) (i : Nat) (m f : Bool) : (bulletT st i m f).size ≤ 20 := by
  obtain ⟨_, h1, h2, h3, h4, h5, h6, h7, h8⟩ := hs
  unfold bulletT
  split
  · exact h1
  · split
    · exact h2
    · split
      · exact h6
      · split
        · exact h3
        · exact h4

/-- What is read of lines that the program made. -/
theorem OwnLines.rd {w : World} {B : Nat} {v : Value} {L : List (List UInt8)} (h : OwnLines w B v L) : ∃ A c, v = .slice A L.length c ∧ StrsAt w w.heap.size A L.length c (L.map mkB) := by
  obtain ⟨A, c, hv, hr⟩ := h.strs.rd
  rw [List.length_map] at hv hr
  exact ⟨A, c, hv, hr⟩
theorem line_at {w : World} {B n c k : Nat} {A : Option Addr} {L : List (List UInt8)} (h : StrsAt w B A n c (L.map mkB)) (hk : k < n) : ∃ ad y, A = some ad ∧ ad.block < B ∧ L[k]? = some y ∧ w.cell? (ad.add k) = some (.string (mkB y)) := by
  obtain ⟨ad, x, e, hb, hx, hc⟩ := StrsAt.at_ h hk
  rw [List.getElem?_map] at hx
  cases hy : L[k]? with
  | none => rw [hy] at hx; cases hx
  | some y => rw [hy] at hx; simp at hx; exact ⟨ad, y, e, hb, rfl, by rw [hc, ← hx]⟩
theorem OwnLines.one (w : World) (x : ByteArray) {B : Nat} (hB : B ≤ w.heap.size) : OwnLines (w.alloc (.cells #[.string x] 9)) B (.slice (some ⟨w.heap.size, 0, none⟩) 1 1) [bl x] :=
  ⟨rfl, Or.inr ⟨w.heap.size, 1, #[.string x], rfl, hB, heap_alloc_new w _, Nat.le_refl _, by unfold maxLen; omega, rfl, by simp [mkB_bl]⟩⟩
theorem OwnLines.base {w : World} {B B' : Nat} {v : Value} {L : List (List UInt8)} (h : OwnLines w B v L) (hb : B' ≤ B) : OwnLines w B' v L := own_base h hb

theorem ItemsAt.drew {w : World} {B n c : Nat} {A : Option Addr} {l : List (ByteArray × Nat)} (h : ItemsAt w B A n c l) : ItemsAt w.drew B A n c l := by
  obtain ⟨xs, h1, h2, h3⟩ := h; exact ⟨xs, h1.drew, h2, h3⟩
/-- 'append(v, y)' at a step of a region that draws: v a row of strings of the call's own. -/
theorem step_append_str {ops : Array Oper} {o : Oper} {a : Act} {K : Act → World → Prop} {Q : Exit → Act → World → Prop} {E : Prop} {w : World} (hgd : o.guard = none) (s x : Operand)
    (ho : o.op = .call { callee := .builtin .append, args := #[s, x], argTypes := #[35, 35] })
    (B : Nat) (v : Value) (n : Nat) (xs : List Value) (hs : a.eval s = v) (hown : w.ownsRow B 9 1 v n xs) (ad : Addr) (y : ByteArray) (hx : a.eval x = .slice (some ad) 1 1) (hcell : ∀ j u, [Value.string y][j]? = some u → w.cell? (ad.add j) = some u)
    (hn : n + 1 ≤ 1099511627776) (hB : B ≤ w.heap.size)
    (hK : ∀ v' w', w'.ownsRow B 9 1 v' (n + 1) (xs ++ [.string y]) → w.grownBy w' v.ownBlock → K (a.put o.dst v') w') :
    if Region.wanted o (yielded ops a.tmps) = true then Oper.wp Tryz.prog o a w K Q else E := by
  have hw : Region.wanted o (yielded ops a.tmps) = true := by simp [Region.wanted, hgd]
  rw [if_pos hw]
  obtain ⟨i0, hi, hz0, hz1, hz2⟩ := info_parts infoStr
  obtain ⟨v', w', hr, hown', hgrow, _, _⟩ := run_append_own_at (P := Tryz.prog) w B 35 o.type 9 i0 (.string ⟨#[]⟩) 1 16 Tryz.underlying35 hi hz0 hz1 hz2 rfl (by decide) v n xs hown ad 1 1 [.string y] rfl hcell (by intro u hu; simp at hu; subst hu; rfl) (by unfold maxLen; omega) (by omega) hB
  unfold Oper.wp execOp
  simp only [ho, resolve, invoke, builtin, Sem.run_bind, Sem.run_pure, Result.andThen_ok, List.map_toArray, List.map_cons, List.map_nil, hs, hx, hr]
  exact hK v' w' hown' hgrow
theorem own_drew {w : World} {B e size n : Nat} {v : Value} {xs : List Value} (h : w.ownsRow B e size v n xs) : w.drew.ownsRow B e size v n xs := h
theorem box9 {w w' : World} {b B : Nat} {a0 a1 a2 a3 a4 a5 a6 a7 a8 : Value} {T : TypeId} (h : w.heap[b]? = some (.cells #[a0, a1, a2, a3, a4, a5, a6, a7, a8] T (0, 0))) (hlt : b < B) (hb : Below B w w') :
    w'.cell? ⟨b, 0, none⟩ = some a0 ∧ w'.cell? ⟨b, 1, none⟩ = some a1 ∧ w'.cell? ⟨b, 2, none⟩ = some a2 ∧ w'.cell? ⟨b, 3, none⟩ = some a3 ∧ w'.cell? ⟨b, 4, none⟩ = some a4 ∧ w'.cell? ⟨b, 5, none⟩ = some a5 ∧ w'.cell? ⟨b, 6, none⟩ = some a6 ∧ w'.cell? ⟨b, 7, none⟩ = some a7 ∧ w'.cell? ⟨b, 8, none⟩ = some a8 ∧ Below B w w' := by
  have hblk := (hb.block b hlt).trans h
  exact ⟨blk_cell hblk 0, blk_cell hblk 1, blk_cell hblk 2, blk_cell hblk 3, blk_cell hblk 4, blk_cell hblk 5, blk_cell hblk 6, blk_cell hblk 7, blk_cell hblk 8, hb⟩

theorem lines_bound {st : StyleV} {items : List (ByteArray × Nat)} {i : Nat} {x : ByteArray × Nat} (hst : styleSmall st) (hl : x.2 ≤ 300) (htz : x.1.size ≤ 1000) : (linesT st items i x).length ≤ 1002 ∧ ∀ y ∈ linesT st items i x, y.length ≤ 6000000 := by
  have ht := texts_small (st := st) hst.2.2.2.2.2.2.2.1 htz
  have ha := ahead_size (st := st) hst.2.2.2.2.2.1 hst.2.2.2.2.2.2.2.2 items i x.2
  refine ⟨by unfold linesT; rw [mapK_length]; exact ht.1, fun y hy => ?_⟩
  obtain ⟨k, t, hmem, rfl⟩ := mapK_mem hy
  have h1 := ht.2 t hmem
  have h2 := bulletT_size hst i (moreB x.2 (items.drop (i + 1))) (firstB items i x.2)
  have h3 := link_size (items := items) (i := i) (lv := x.2) hst.2.2.2.2.2.1
  unfold lineT
  rw [← bl_size] at h2
  split
  · simp only [List.length_append, List.length_cons, List.length_nil]; omega
  · simp only [List.length_append]; omega

theorem bound_k {a k : Nat} (h : a ≤ k * 7000000000) (hk : k ≤ 2000) : a ≤ 14000000000000 := by omega

end Go.Proofs.YtdkpacgbniclhaaGreatDoor
namespace Go.Proofs.YtdkpacgbniclhaaGreatDoor
open Go.RowKit

/-- The style of stars. -/
def starSt (p nl : ByteArray) : StyleV := ⟨0, ⟨#[42]⟩, ⟨#[42]⟩, ⟨#[42]⟩, ⟨#[42]⟩, ⟨#[32, 32]⟩, ⟨#[42]⟩, nl, p, ⟨#[]⟩⟩
def fitStyleB (st : StyleV) : Bool := decide (st.single.size ≤ 2147483647) && decide (st.top.size ≤ 2147483647) && decide (st.first.size ≤ 2147483647) && decide (st.middle.size ≤ 2147483647) && decide (st.vert.size ≤ 2147483647) && decide (st.bottom.size ≤ 2147483647) && decide (st.newline.size ≤ 2147483647) && decide (st.pfx.size ≤ 2147483647)
set_option maxRecDepth 100000 in
set_option maxHeartbeats 4000000 in
theorem fitStyle_any (st : StyleV) (w : World) :
    Calls Tryz.prog 9 #[st.arg] w fun e w' => e = .returned (.bool (fitStyleB st)) ∧ Below w.heap.size w w' := by
  unfold StyleV.arg
  have hbox := (Below.refl w.heap.size w).alloc (Nat.le_refl _) (.cells #[.int .i64 st.fmt, .string st.single, .string st.top, .string st.first, .string st.middle, .string st.vert, .string st.bottom, .string st.newline, .string st.pfx] 24)
  have hhb : (w.alloc (.cells #[.int .i64 st.fmt, .string st.single, .string st.top, .string st.first, .string st.middle, .string st.vert, .string st.bottom, .string st.newline, .string st.pfx] 24)).heap[w.heap.size]? = some (.cells #[.int .i64 st.fmt, .string st.single, .string st.top, .string st.first, .string st.middle, .string st.vert, .string st.bottom, .string st.newline, .string st.pfx] 24 (0, 0)) := heap_alloc_new w _
  have k1 := blk_cell hhb 1
  have k2 := blk_cell hhb 2
  have k3 := blk_cell hhb 3
  have k4 := blk_cell hhb 4
  have k5 := blk_cell hhb 5
  have k6 := blk_cell hhb 6
  have k7 := blk_cell hhb 7
  have k8 := blk_cell hhb 8
  clear hhb
  by_cases h1 : st.single.size ≤ 2147483647
  case neg =>
    have HB := Lib.hid (show fitStyleB st = false by unfold fitStyleB; simp [h1])
    go_enter Tryz.func9, Tryz.ntmps9
    go_wp2
    go_ret
    exact ⟨ret_bool (by rw [HB.out]), hbox⟩
  by_cases h2 : st.top.size ≤ 2147483647
  case neg =>
    have HB := Lib.hid (show fitStyleB st = false by unfold fitStyleB; simp [h2])
    go_enter Tryz.func9, Tryz.ntmps9
    go_wp2
    go_ret
    exact ⟨ret_bool (by rw [HB.out]), hbox⟩
  by_cases h3 : st.first.size ≤ 2147483647
  case neg =>
    have HB := Lib.hid (show fitStyleB st = false by unfold fitStyleB; simp [h3])
    go_enter Tryz.func9, Tryz.ntmps9
    go_wp2
    go_ret
    exact ⟨ret_bool (by rw [HB.out]), hbox⟩
  by_cases h4 : st.middle.size ≤ 2147483647
  case neg =>
    have HB := Lib.hid (show fitStyleB st = false by unfold fitStyleB; simp [h4])
    go_enter Tryz.func9, Tryz.ntmps9
    go_wp2
    go_ret
    exact ⟨ret_bool (by rw [HB.out]), hbox⟩
  by_cases h5 : st.vert.size ≤ 2147483647
  case neg =>
    have HB := Lib.hid (show fitStyleB st = false by unfold fitStyleB; simp [h5])
    go_enter Tryz.func9, Tryz.ntmps9
    go_wp2
    go_ret
    exact ⟨ret_bool (by rw [HB.out]), hbox⟩
  by_cases h6 : st.bottom.size ≤ 2147483647
  case neg =>
    have HB := Lib.hid (show fitStyleB st = false by unfold fitStyleB; simp [h6])
    go_enter Tryz.func9, Tryz.ntmps9
    go_wp2
    go_ret
    exact ⟨ret_bool (by rw [HB.out]), hbox⟩
  by_cases h7 : st.newline.size ≤ 2147483647
  case neg =>
    have HB := Lib.hid (show fitStyleB st = false by unfold fitStyleB; simp [h7])
    go_enter Tryz.func9, Tryz.ntmps9
    go_wp2
    go_ret
    exact ⟨ret_bool (by rw [HB.out]), hbox⟩
  by_cases h8 : st.pfx.size ≤ 2147483647
  case neg =>
    have HB := Lib.hid (show fitStyleB st = false by unfold fitStyleB; simp [h8])
    go_enter Tryz.func9, Tryz.ntmps9
    go_wp2
    go_ret
    exact ⟨ret_bool (by rw [HB.out]), hbox⟩
  have HB := Lib.hid (show fitStyleB st = true by unfold fitStyleB; simp [h1, h2, h3, h4, h5, h6, h7, h8])
  go_enter Tryz.func9, Tryz.ntmps9
  go_wp2
  go_ret
  exact ⟨ret_bool (by rw [HB.out]), hbox⟩

set_option maxRecDepth 100000 in
set_option maxHeartbeats 8000000 in
theorem lsStyled_any (st : StyleV) (w : World) :
    Calls Tryz.prog 11 #[st.arg] w fun e w' => e = .returned (.bool (lsStyledB st)) ∧ Below w.heap.size w w' := by
  unfold StyleV.arg
  have hbox := (Below.refl w.heap.size w).alloc (Nat.le_refl _) (.cells #[.int .i64 st.fmt, .string st.single, .string st.top, .string st.first, .string st.middle, .string st.vert, .string st.bottom, .string st.newline, .string st.pfx] 24)
  have hhb : (w.alloc (.cells #[.int .i64 st.fmt, .string st.single, .string st.top, .string st.first, .string st.middle, .string st.vert, .string st.bottom, .string st.newline, .string st.pfx] 24)).heap[w.heap.size]? = some (.cells #[.int .i64 st.fmt, .string st.single, .string st.top, .string st.first, .string st.middle, .string st.vert, .string st.bottom, .string st.newline, .string st.pfx] 24 (0, 0)) := heap_alloc_new w _
  have hlit := hbox.alloc hbox.size (.cells #[.string st.single, .string st.top, .string st.first, .string st.middle, .string st.vert, .string st.bottom, .string st.pfx] 9)
  have hsA : StrsAt ((w.alloc (.cells #[.int .i64 st.fmt, .string st.single, .string st.top, .string st.first, .string st.middle, .string st.vert, .string st.bottom, .string st.newline, .string st.pfx] 24)).alloc (.cells #[.string st.single, .string st.top, .string st.first, .string st.middle, .string st.vert, .string st.bottom, .string st.pfx] 9)) ((w.alloc (.cells #[.int .i64 st.fmt, .string st.single, .string st.top, .string st.first, .string st.middle, .string st.vert, .string st.bottom, .string st.newline, .string st.pfx] 24)).alloc (.cells #[.string st.single, .string st.top, .string st.first, .string st.middle, .string st.vert, .string st.bottom, .string st.pfx] 9)).heap.size (some ⟨w.heap.size + 1, 0, none⟩) 7 7 [st.single, st.top, st.first, st.middle, st.vert, st.bottom, st.pfx] :=
    ⟨rfl, Nat.le_refl _, by omega, fun _ => ⟨_, rfl, by simp, by
      have h := heap_alloc_new (w.alloc (.cells #[.int .i64 st.fmt, .string st.single, .string st.top, .string st.first, .string st.middle, .string st.vert, .string st.bottom, .string st.newline, .string st.pfx] 24)) (.cells #[.string st.single, .string st.top, .string st.first, .string st.middle, .string st.vert, .string st.bottom, .string st.pfx] 9)
      have hz : (w.alloc (.cells #[.int .i64 st.fmt, .string st.single, .string st.top, .string st.first, .string st.middle, .string st.vert, .string st.bottom, .string st.newline, .string st.pfx] 24)).heap.size = w.heap.size + 1 := by simp
      rw [hz] at h
      exact World.news_of_block (cs := #[.string st.single, .string st.top, .string st.first, .string st.middle, .string st.vert, .string st.bottom, .string st.pfx]) h⟩⟩
  have hhb2 : ((w.alloc (.cells #[.int .i64 st.fmt, .string st.single, .string st.top, .string st.first, .string st.middle, .string st.vert, .string st.bottom, .string st.newline, .string st.pfx] 24)).alloc (.cells #[.string st.single, .string st.top, .string st.first, .string st.middle, .string st.vert, .string st.bottom, .string st.pfx] 9)).heap[w.heap.size]? = some (.cells #[.int .i64 st.fmt, .string st.single, .string st.top, .string st.first, .string st.middle, .string st.vert, .string st.bottom, .string st.newline, .string st.pfx] 24 (0, 0)) := (heap_alloc_old (w.alloc (.cells #[.int .i64 st.fmt, .string st.single, .string st.top, .string st.first, .string st.middle, .string st.vert, .string st.bottom, .string st.newline, .string st.pfx] 24)) _ (blk_lt hhb)).trans hhb
  have k0 := blk_cell hhb 0
  have k1 := blk_cell hhb 1
  have k2 := blk_cell hhb 2
  have k3 := blk_cell hhb 3
  have k4 := blk_cell hhb 4
  have k5 := blk_cell hhb 5
  have k6 := blk_cell hhb 6
  have k7 := blk_cell hhb 7
  have k8 := blk_cell hhb 8
  obtain ⟨w1, hw1⟩ : ∃ w1, w1 = (w.alloc (.cells #[.int .i64 st.fmt, .string st.single, .string st.top, .string st.first, .string st.middle, .string st.vert, .string st.bottom, .string st.newline, .string st.pfx] 24)).alloc (.cells #[.string st.single, .string st.top, .string st.first, .string st.middle, .string st.vert, .string st.bottom, .string st.pfx] 9) := ⟨_, rfl⟩
  have HALL := Lib.hid (show lsStyledB st = ([st.single, st.top, st.first, st.middle, st.vert, st.bottom, st.pfx].all fieldB && ((runes st.vert).all (fun r => !wideB r) && (decide (st.fmt = 0) && decide (bl st.newline = [10])))) from rfl)
  obtain ⟨l7, hl7⟩ : ∃ l7 : List ByteArray, l7 = [st.single, st.top, st.first, st.middle, st.vert, st.bottom, st.pfx] := ⟨_, rfl⟩
  rw [← hl7] at hsA HALL
  have hl7n : l7.length = 7 := by rw [hl7]; rfl
  have HSEV := Lib.hid hl7n
  clear hl7 hl7n hhb
  go_enter Tryz.func11, Tryz.ntmps11
  go_wp2_with fail
  rw [← hw1] at hlit hsA hhb2 ⊢
  clear hw1 k0 k1 k2 k3 k4 k5 k6 k7 k8 hbox
  go_loopw [23] (fun v23 wr => ∃ k : Nat, k ≤ 7 ∧ v23 = .int .i64 k ∧ Hid (l7.all fieldB = (l7.drop k).all fieldB) ∧ Below w1.heap.size w1 wr) (fun v23 _ => 7 - (intOf v23).toNat)
  case atStart => exact ⟨0, Nat.zero_le _, rfl, Lib.hid rfl, Below.refl _ _⟩
  case round =>
    obtain ⟨k, hk, rfl, HR, hbw⟩ := hrel
    have hszw := hbw.size
    have hbW := hlit.trans (hbw.mono hlit.size)
    by_cases hlt : k < 7
    · obtain ⟨ad, y, hade, _, hy, hcy⟩ := (hsA.below hbw).at_ hlt
      injection hade with hade
      subst hade
      have hadd : (⟨w.heap.size + 1, 0, none⟩ : Addr).add k = ⟨w.heap.size + 1, k, none⟩ := by unfold Addr.add; split <;> simp_all
      rw [hadd] at hcy
      clear hadd
      have hki : (k : Int) < 7 := by omega
      have HF := Lib.hid (show fieldB y = false → lsStyledB st = false from fun e => by rw [HALL.out, HR.out, drop_step hy, List.all_cons, e]; rfl)
      have HN := Lib.hid (show fieldB y = true → l7.all fieldB = (l7.drop (k + 1)).all fieldB from fun e => by rw [HR.out, drop_step hy, List.all_cons, e]; rfl)
      clear hy
      by_cases hz : y.size ≤ 20
      case neg =>
        have HX := Lib.hid (HF.out (by unfold fieldB; rw [decide_eq_false hz]; rfl))
        have hz2 : 20 < y.size := by omega
        go_wp2_with fail
        go_wp2
        go_ret
        exact ⟨ret_bool (by rw [HX.out]), hbW⟩
      cases hs : simpleB y false with
      | false =>
        have HX := Lib.hid (HF.out (by unfold fieldB; rw [hs]; simp))
        have HS := Lib.hid hs
        clear hs
        go_wp2_with fail
        refine (simple_any y false _).mono ?_
        rintro e w2 ⟨rfl, hb2⟩
        rw [HS.out]
        have hb3 := hbW.trans (hb2.mono hbW.size)
        go_wp2
        go_ret
        exact ⟨ret_bool (by rw [HX.out]), hb3⟩
      | true =>
        have HX := Lib.hid (HN.out (by unfold fieldB; rw [hs, decide_eq_true hz]; rfl))
        have HS := Lib.hid hs
        clear hs
        go_wp2_with fail
        refine (simple_any y false _).mono ?_
        rintro e w2 ⟨rfl, hb2⟩
        rw [HS.out]
        have hb3 := hbw.trans (hb2.mono hszw)
        clear hbW hb2
        go_wp2
        go_roundw
        case rel => exact ⟨k + 1, by omega, by go_num, HX, hb3⟩
        case measure => simp [intOf]; omega
    · have hki : ¬ (k : Int) < 7 := by omega
      have HA := Lib.hid (show lsStyledB st = ((runes st.vert).all (fun r => !wideB r) && (decide (st.fmt = 0) && decide (bl st.newline = [10]))) by
        rw [HALL.out, HR.out, List.drop_of_length_le (by rw [HSEV.out]; omega)]; rfl)
      obtain ⟨wo, rfl⟩ : ∃ q : World, q = wr := ⟨_, rfl⟩
      have hblk : wo.heap[w.heap.size]? = _ := (hbw.block w.heap.size (blk_lt hhb2)).trans hhb2
      have k0 := blk_cell hblk 0
      have k5 := blk_cell hblk 5
      have k7 := blk_cell hblk 7
      have hbI := (Below.refl wo.heap.size wo).alloc (Nat.le_refl _) (.stringIter st.vert 0)
      clear hbw hsA
      go_wp2_with fail
      go_loopw [] (fun wr => ∃ pos : Nat, wr.heap[wo.heap.size]? = some (.stringIter st.vert pos) ∧ Below wo.heap.size wo wr ∧ Hid ((runes st.vert).all (fun r => !wideB r) = (runesFrom st.vert pos).all (fun r => !wideB r))) (fun wr => st.vert.size - wr.iterPos wo.heap.size)
      case atStart => exact ⟨0, World.iter_heap wo st.vert 0, hbI, Lib.hid rfl⟩
      case round =>
        obtain ⟨pos, hit, hbv, HV⟩ := hrel
        clear hbI
        by_cases hp : pos < st.vert.size
        · obtain ⟨r, pos2, wr2, hr, h0, h1, hltp, hle, hit2, hbw2, hsz, _, hnx⟩ := iter_next (P := Tryz.prog) hit hp hbv (Nat.le_refl _)
          have HM := Lib.hid (show st.vert.size - wr2.iterPos wo.heap.size < st.vert.size - wr.iterPos wo.heap.size by have e1 := iterPos_of hit; have e2 := iterPos_of hit2; omega)
          have hbF := hbW.trans (hbw2.mono hbW.size)
          cases hwd : wideB r with
          | true =>
            have HX := Lib.hid (show lsStyledB st = false by rw [HA.out, HV.out, hr, List.all_cons, hwd]; rfl)
            have HWD := Lib.hid hwd
            clear hr hwd hbv hsz k0 k5 k7 hblk
            go_wp2_with fail
            refine (wide_any r _).mono ?_
            rintro e w2 ⟨rfl, rfl⟩
            rw [HWD.out]
            go_wp2
            go_ret
            exact ⟨ret_bool (by rw [HX.out]), hbF⟩
          | false =>
            have HX := Lib.hid (show (runes st.vert).all (fun r => !wideB r) = (runesFrom st.vert pos2).all (fun r => !wideB r) by rw [HV.out, hr, List.all_cons, hwd]; rfl)
            have HWD := Lib.hid hwd
            clear hr hwd hbv hsz k0 k5 k7 hblk
            go_wp2_with fail
            refine (wide_any r _).mono ?_
            rintro e w2 ⟨rfl, rfl⟩
            rw [HWD.out]
            go_wp2
            go_roundw
            case rel => exact ⟨pos2, hit2, hbw2, HX⟩
            case measure => exact HM.out
        · have hnx : ∀ ty, (Instr.next (.pointer (some ⟨wo.heap.size, 0, none⟩)) true ty).run Tryz.prog wr = _ := fun ty => Lib.run_next_end_at wr wo.heap.size st.vert pos ty hit hp
          have HX := Lib.hid (show lsStyledB st = (decide (st.fmt = 0) && decide (bl st.newline = [10])) by rw [HA.out, HV.out, runesFrom_end hp]; rfl)
          have hbF := hbW.trans (hbv.mono hbW.size)
          have hblk2 : wr.heap[w.heap.size]? = _ := (hbv.block w.heap.size (blk_lt hblk)).trans hblk
          clear k0 k5 k7
          have k0 := blk_cell hblk2 0
          have k7 := blk_cell hblk2 7
          clear hblk hblk2 hbv
          cases hfm : (st.fmt == 0) with
          | false =>
            have HR := Lib.hid (show lsStyledB st = false by
              rw [HX.out]
              have : ¬ st.fmt = 0 := by simpa using hfm
              simp [this])
            go_wp2
            go_ret
            exact ⟨ret_bool (by rw [HR.out]), hbF⟩
          | true =>
            have HR := Lib.hid (show lsStyledB st = (st.newline.toList == [10]) by
              rw [HX.out]
              have : st.fmt = 0 := by simpa using hfm
              rw [decide_eq_true this, Lib.toList_data]
              show decide (bl st.newline = [10]) = (bl st.newline == [10])
              rw [Bool.eq_iff_iff]; simp)
            go_wp2
            go_ret
            exact ⟨ret_bool (by rw [HR.out]), hbF⟩
end Go.Proofs.YtdkpacgbniclhaaGreatDoor
namespace Go.Proofs.YtdkpacgbniclhaaGreatDoor
open Go.RowKit

def newlineB (s : ByteArray) : Bool := decide (bl s ≠ []) && (decide (s.size ≤ 20) && (decide (bl s = [10]) || simpleB s false))
theorem styled_split (st : StyleV) : styledB st = (lsStyledB { st with newline := ⟨#[10]⟩ } && newlineB st.newline) := rfl

end Go.Proofs.YtdkpacgbniclhaaGreatDoor
