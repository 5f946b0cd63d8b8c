/- Plain laws: how long what some steps draw is. Condition: the steps are right, the style is one that the statements speak of.
   Plain laws: what is painted is stripped to what it was, in a list. Condition: items that are names; styles of known characters.
   Walk of spec.LsName and spec.TxTight: what they answer. No condition.
   Walk of spec.LtMapped over the closure of laws.FnListsPainted: the steps, each text in a color. Condition: texts of the kind that LtRight asks.
   Plain laws for laws.FnListsPainted: what the style and the steps are like, and how long what they draw is.
   Walk of laws.FnListsPainted: it answers true and writes nothing that was there. No condition. Printed by wip/tools/gen_painted.py. -/
import Derived.Test.YtdkpacgbniclhaaGreatDoorLt
import Derived.Test.YtdkpacgbniclhaaGreatDoorListsUn
import Derived.Test.YtdkpacgbniclhaaGreatDoorStrip
import Derived.Test.YtdkpacgbniclhaaGreatDoorSprint
import Derived.Test.YtdkpacgbniclhaaGreatDoorListHtml
import Derived.Test.YtdkpacgbniclhaaGreatDoorListMd
import Derived.Test.YtdkpacgbniclhaaGreatDoorOwnSteps
import Derived.Deep.RegionHeld3
import Derived.Test.YtdkpacgbniclhaaGreatDoorListsClass
namespace Go.Proofs.YtdkpacgbniclhaaGreatDoor
open Go.RowKit
set_option linter.unusedVariables false

theorem draws_same {l : List Step} {st : StyleV} (hr : rightB l = true) (hs : styledB st = true) : drawnT st (played l) = drawD st (played l) := by
  obtain ⟨_, h2, h3, _⟩ := styled_facts hs
  exact drawn_eq h2 h3 (right_simple hr)
theorem right_tight {l : List Step} (h : rightB l = true) : (played l).length ≤ 880 ∧ ∀ x ∈ played l, x.1.size ≤ 200 ∧ x.2 ≤ 80 := by
  obtain ⟨_, h2, h3⟩ := right_plain h
  have hm : ∀ s ∈ l, s.text.size ≤ 200 ∧ ∀ t ∈ s.texts, t.size ≤ 200 := by
    unfold rightB at h
    simp only [Bool.and_eq_true] at h
    intro s hs
    have h1 := List.all_eq_true.1 h.1 s hs
    unfold stepRightB at h1
    simp only [Bool.and_eq_true] at h1
    have key : ∀ t, textB t = true → t.size ≤ 200 := fun t ht => by unfold textB at ht; simp only [Bool.and_eq_true, decide_eq_true_eq] at ht; exact ht.1
    exact ⟨key _ h1.1, fun t ht => key _ (List.all_eq_true.1 h1.2.2 t ht)⟩
  have p1 := played_small l 200 hm l.length
  have p2 := play_size l l.length
  rw [playK_all (Nat.le_refl _)] at p1 p2
  rw [List.take_length] at p2
  exact ⟨by unfold played; omega, fun x hx => ⟨(p1.1 x hx).1, by have := (p1.1 x hx).2; omega⟩⟩
theorem lines_tight {t : ByteArray} (h : t.size ≤ 200) : (linesL (runes t)).length ≤ 202 ∧ ∀ x ∈ linesL (runes t), x.length ≤ 800 := by
  obtain ⟨a, b⟩ := fold_bound (runes t) [[]] 0 (by intro x hx; simp at hx; subst hx; simp)
  have := runes_length t
  exact ⟨by simp at a; unfold linesL; omega, fun x hx => by have := b x hx; omega⟩
theorem joinK_tight {nl : List UInt8} (hn : nl.length ≤ 20) : ∀ (l : List (List UInt8)) (k : Nat), (∀ x ∈ l, x.length ≤ 800) → (mapCat (fun k x => (if 0 < k then nl else []) ++ x) k l).length ≤ 820 * l.length
  | [], _, _ => by simp [mapCat]
  | x :: l, k, h => by
    have ih := joinK_tight hn l (k + 1) (fun y hy => h y (by simp [hy]))
    have h1 := h x (by simp)
    rw [mapCat, List.length_append, List.length_append, List.length_cons]
    have h2 : (if 0 < k then nl else []).length ≤ 20 := by split <;> first | omega | (simp; done) | (simp; omega)
    omega
theorem sep_len (i : Nat) (M : Nat) : ∀ (L : List (List UInt8)) (k : Nat), (∀ x ∈ L, x.length ≤ M) → (mapCat (sepT i) k L).length ≤ (M + 1) * L.length
  | [], _, _ => by simp [mapCat]
  | x :: L, k, h => by
    have ih := sep_len i M L (k + 1) (fun y hy => h y (by simp [hy]))
    have h1 := h x (by simp)
    rw [mapCat, List.length_append, List.length_cons, Nat.mul_add, Nat.mul_one]
    have h2 : (sepT i k x).length ≤ M + 1 := by unfold sepT; rw [List.length_append]; split <;> (simp; try omega)
    omega
theorem line_tight {st : StyleV} {items : List (ByteArray × Nat)} {i lv k : Nat} {t : List UInt8} (hst : styleSmall st) (hl : lv ≤ 80) : (lineT st items i lv k t).length ≤ 3300 + t.length := by
  have ha := ahead_size (st := st) hst.2.2.2.2.2.1 hst.2.2.2.2.2.2.2.2 items i lv
  have h2 := bulletT_size hst i (moreB lv (items.drop (i + 1))) (firstB items i lv)
  have h3 := link_size (items := items) (i := i) (lv := lv) hst.2.2.2.2.2.1
  unfold lineT
  rw [← bl_size] at h2
  split
  · simp only [List.length_append, List.length_cons, List.length_nil]; omega
  · simp only [List.length_append]; omega
theorem item_tight {st : StyleV} {items : List (ByteArray × Nat)} {i : Nat} {x : ByteArray × Nat} (hst : styleSmall st) (hx : x.1.size ≤ 200) (hl : x.2 ≤ 80) : (mapCat (sepT i) 0 (linesT st items i x)).length ≤ 900000 ∧ (linesT st items i x).length ≤ 202 := by
  obtain ⟨a, b⟩ := lines_tight hx
  have hn : (bl st.newline).length ≤ 20 := by rw [bl_size]; exact hst.2.2.2.2.2.2.2.1
  by_cases hnl : bl st.newline ≠ [10]
  · have ht : textsT st x.1 = [joinT (bl st.newline) (linesL (runes x.1))] := by unfold textsT; rw [if_pos hnl]
    have hj := joinK_tight hn (linesL (runes x.1)) 0 b
    have hlen : (linesT st items i x).length = 1 := by unfold linesT; rw [mapK_length, ht]; rfl
    have hb : ∀ y ∈ linesT st items i x, y.length ≤ 170000 := by
      intro y hy
      unfold linesT at hy
      obtain ⟨k, t, hm, rfl⟩ := mapK_mem hy
      rw [ht] at hm
      simp only [List.mem_singleton] at hm
      subst hm
      have := line_tight (items := items) (i := i) (k := k) (t := joinT (bl st.newline) (linesL (runes x.1))) hst hl
      unfold joinT at this ⊢
      omega
    have := sep_len i 170000 _ 0 hb
    rw [hlen] at this
    exact ⟨by omega, by omega⟩
  · have ht : textsT st x.1 = linesL (runes x.1) := by unfold textsT; rw [if_neg hnl]
    have hlen : (linesT st items i x).length ≤ 202 := by unfold linesT; rw [mapK_length, ht]; exact a
    have hb : ∀ y ∈ linesT st items i x, y.length ≤ 4100 := by
      intro y hy
      unfold linesT at hy
      obtain ⟨k, t, hm, rfl⟩ := mapK_mem hy
      rw [ht] at hm
      have h1 := b t hm
      have := line_tight (items := items) (i := i) (k := k) (t := t) hst hl
      omega
    have := sep_len i 4100 _ 0 hb
    exact ⟨by omega, hlen⟩
theorem drawn_size {st : StyleV} {l : List Step} (hst : styleSmall st) (hr : rightB l = true) : (drawnT st (played l)).length ≤ 1000000000 := by
  obtain ⟨h1, h2⟩ := right_tight hr
  have key : ∀ (q : List (ByteArray × Nat)) (k : Nat), (∀ x ∈ q, x.1.size ≤ 200 ∧ x.2 ≤ 80) → (mapCat (fun i x => mapCat (sepT i) 0 (linesT st (played l) i x)) k q).length ≤ 900000 * q.length := by
    intro q
    induction q with
    | nil => intro k _; simp [mapCat]
    | cons x q ih =>
      intro k h
      have a := ih (k + 1) (fun y hy => h y (by simp [hy]))
      have b := (item_tight (items := played l) (i := k) hst (h x (by simp)).1 (h x (by simp)).2).1
      rw [mapCat, List.length_append, List.length_cons]
      omega
  have := key (played l) 0 h2
  unfold drawnT
  omega
theorem all_tight {st : StyleV} {l : List Step} (hst : styleSmall st) (hr : rightB l = true) : (allT st (played l)).length ≤ 177760 := by
  obtain ⟨h1, h2⟩ := right_tight hr
  have key : ∀ (q : List (ByteArray × Nat)) (k : Nat), (∀ x ∈ q, x.1.size ≤ 200 ∧ x.2 ≤ 80) → ((mapK (linesT st (played l)) k q).flatten).length ≤ 202 * q.length := by
    intro q
    induction q with
    | nil => intro k _; simp [mapK]
    | cons x q ih =>
      intro k h
      have a := ih (k + 1) (fun y hy => h y (by simp [hy]))
      have b := (item_tight (items := played l) (i := k) hst (h x (by simp)).1 (h x (by simp)).2).2
      rw [mapK, List.flatten_cons, List.length_append, List.length_cons]
      omega
  have := key (played l) 0 h2
  unfold allT
  omega
end Go.Proofs.YtdkpacgbniclhaaGreatDoor
namespace Go.Proofs.YtdkpacgbniclhaaGreatDoor
open Go.RowKit
set_option linter.unusedVariables false

/-- A text that strips to another one, whatever comes behind. -/
def Stp (a b : List UInt8) : Prop := goodL a ∧ ∀ rest : List Int, stripL (runes (mkB a) ++ rest) false = b ++ stripL rest false
theorem Stp.nil : Stp [] [] := ⟨goodL_nil, fun rest => by rw [show runes (mkB []) = [] from runesFrom_end (by decide)]; rfl⟩
theorem Stp.app {a b c d : List UInt8} (h : Stp a b) (g : Stp c d) : Stp (a ++ c) (b ++ d) := ⟨goodL_app h.1 g.1, fun rest => by
  rw [← mkB_app, runes_app _ _ h.1, List.append_assoc, h.2, g.2, List.append_assoc]⟩
theorem Stp.done {a b : List UInt8} (h : Stp a b) : stripL (runes (mkB a)) false = b := by
  have e := h.2 []
  rw [List.append_nil] at e
  rw [e]
  simp [stripL]
/-- A text without an escape. -/
def cleanL (a : List UInt8) : Prop := goodL a ∧ ∀ r ∈ runes (mkB a), r ≠ 27
theorem cleanL.stp {a : List UInt8} (h : cleanL a) : Stp a a := ⟨h.1, fun rest => by
  rw [stripL_plain _ _ h.2, enc_all h.1]; rfl⟩
theorem cleanL_ascii {a : List UInt8} (h : ∀ b ∈ a, b.toNat < 128 ∧ b ≠ 27) : cleanL a := ⟨goodL_ascii fun b hb => (h b hb).1, fun r hr => by
  rw [show mkB a = ⟨a.toArray⟩ from rfl, runes_mk a fun b hb => (h b hb).1] at hr
  obtain ⟨b, hb, rfl⟩ := List.mem_map.1 hr
  intro e
  exact (h b hb).2 (UInt8.toNat_inj.1 (by simp; omega))⟩
theorem cleanL_app {a b : List UInt8} (ha : cleanL a) (hb : cleanL b) : cleanL (a ++ b) := ⟨goodL_app ha.1 hb.1, fun r hr => by
  rw [← mkB_app, runes_app _ _ ha.1] at hr
  exact (List.mem_append.1 hr).elim (ha.2 r) (hb.2 r)⟩
theorem cleanL_simple {s : ByteArray} {b : Bool} (h : simpleB s b = true) : cleanL (bl s) := ⟨goodL_simple h, fun r hr => by
  rw [mkB_bl] at hr; exact (simple_runes h r hr).1⟩
theorem cleanL_nil : cleanL [] := cleanL_ascii (by intro b hb; cases hb)
theorem cleanL_spaces (n : Nat) : cleanL (Lib.repeatL [32] n) := by
  have e := Lib.repeatL_replicate 32 1 n
  rw [show (List.replicate 1 (32 : UInt8)) = [32] from rfl] at e
  rw [e]
  exact cleanL_ascii fun b hb => by rw [List.eq_of_mem_replicate hb]; decide
theorem cleanL_flat {α : Type} (f : α → List UInt8) : ∀ l : List α, (∀ x ∈ l, cleanL (f x)) → cleanL (l.flatMap f)
  | [], _ => cleanL_nil
  | x :: l, h => by rw [List.flatMap_cons]; exact cleanL_app (h x (by simp)) (cleanL_flat f l (fun y hy => h y (by simp [hy])))

theorem stp_seq (c : Int) : Stp (seqL [c]) [] := ⟨goodL_ascii (seqL_ascii [c]), fun rest => by
  rw [show mkB (seqL [c]) = ⟨(seqL [c]).toArray⟩ from rfl, runes_mk _ (seqL_ascii [c]), ← show chars (seqL [c]) = (seqL [c]).map (fun b => (b.toNat : Int)) from rfl, ← seq_one, seq1L, chars_append, chars_append]
  have e1 : chars [27, 91] = [27, 91] := by decide
  have e2 : chars [109] = [109] := by decide
  rw [e1, e2]
  have hd : ∀ r ∈ chars (codeL c), r ≠ 109 := by
    intro r hr
    obtain ⟨b, hb, rfl⟩ := List.mem_map.1 hr
    have := decL_digits _ b hb
    unfold isDigit at this
    omega
  rw [List.append_assoc, List.append_assoc, List.cons_append, List.cons_append, List.nil_append, stripL_in (by decide), stripL_in (by decide)]
  simp only [show (!((27 : Int) == 109)) = true from rfl, show (!((91 : Int) == 109)) = true from rfl]
  rw [stripL_skip _ _ hd, List.cons_append, List.nil_append, stripL_in rfl]
  simp only [show (!((109 : Int) == 109)) = false from rfl]
  rfl⟩
theorem stp_reset : Stp RESET [] := ⟨goodL_ascii (by decide), fun rest => by
  rw [show mkB RESET = ⟨RESET.toArray⟩ from rfl, runes_mk RESET (by decide)]
  rfl⟩
theorem stp_painted (c : Int) {t : List UInt8} (h : cleanL t) : Stp (seqL [c] ++ t ++ RESET) t := by
  have := ((stp_seq c).app h.stp).app stp_reset
  rwa [List.nil_append, List.append_nil] at this

/-- A text in a color, as the program prints it. -/
def paintB (c : Int) (t : ByteArray) : ByteArray := ⟨(paintL (bl t) (seq1L c)).toArray⟩
theorem paint_bl (c : Int) (t : ByteArray) : bl (paintB c t) = escL (bl t) (seqL [c]) := by
  unfold paintB paintL
  rw [bl_mk, if_neg (by simp [seq1L]), seq_one]
theorem paint_some (c : Int) {t : ByteArray} (hne : bl t ≠ []) (h27 : (27 : UInt8) ∉ bl t) : bl (paintB c t) = seqL [c] ++ bl t ++ RESET := by
  rw [paint_bl, (esc_plain [c] (by simp) _ hne h27).2]
theorem esc_none (c : Int) : escL [] (seqL [c]) = [] ∨ escL [] (seqL [c]) = seqL [c] := by
  have e1 : esc1 [] (seqL [c]) = seqL [c] := by
    rw [esc1, escPre, if_neg (by decide), replL_nil, List.append_nil]
  unfold escL esc2 escPost
  rw [e1]
  split
  · right
    rw [List.append_nil]
    exact replL_short [] _ (by simp [RESET])
  · left
    obtain ⟨q, hq, _, _⟩ := seqL_tail [c] (by simp)
    rw [hq, List.cons_append]
    rw [replL_hit _ (by simp)]
    simp [replL_nil]

theorem seq1_len (c : Int) (h : 0 ≤ c ∧ c < 1000) : (seqL [c]).length ≤ 8 := by
  rw [← seq_one]; have := seq1L_len c h; omega
theorem paint_size (c : Int) (hc : 0 ≤ c ∧ c < 1000) {t : ByteArray} (h : simpleB t true = true) : (paintB c t).size ≤ t.size + 12 := by
  have hq := seq1_len c hc
  rw [← bl_size]
  by_cases hne : bl t = []
  · rw [paint_bl, hne]
    rcases esc_none c with e | e <;> rw [e]
    · simp
    · omega
  · rw [paint_some c hne (simple_no27 h)]
    have : (bl t).length = t.size := bl_size t
    simp [RESET]
    omega
theorem seq_mem {c : Int} {b : UInt8} (h : b ∈ seqL [c]) : b = 27 ∨ b = 91 ∨ b = 109 ∨ isDigit b := by
  rw [← seq_one, seq1L] at h
  simp only [List.mem_append, List.mem_cons, List.mem_nil_iff, or_false] at h
  rcases h with ((h | h) | h) | h
  · exact Or.inl h
  · exact Or.inr (Or.inl h)
  · exact Or.inr (Or.inr (Or.inr (decL_digits _ b h)))
  · exact Or.inr (Or.inr (Or.inl h))
theorem seq_not {c : Int} {b : UInt8} (h : b ≠ 27) (h1 : b ≠ 91) (h2 : b ≠ 109) (h3 : b.toNat < 48 ∨ 57 < b.toNat) : b ∉ seqL [c] := by
  intro hb
  rcases seq_mem hb with e | e | e | e
  · exact h e
  · exact h1 e
  · exact h2 e
  · unfold isDigit at e; omega
theorem paint_mem {c : Int} {t : ByteArray} (h : simpleB t true = true) {b : UInt8} (hb : b ∈ bl (paintB c t)) : b ∈ seqL [c] ∨ b ∈ bl t ∨ b ∈ RESET := by
  by_cases hne : bl t = []
  · rw [paint_bl, hne] at hb
    rcases esc_none c with e | e <;> rw [e] at hb
    · cases hb
    · exact Or.inl hb
  · rw [paint_some c hne (simple_no27 h)] at hb
    simp only [List.mem_append] at hb
    rcases hb with (h | h) | h
    · exact Or.inl h
    · exact Or.inr (Or.inl h)
    · exact Or.inr (Or.inr h)
theorem paint_plain (c : Int) {t : ByteArray} (h : simpleB t true = true) (hs : t.size ≤ 200) (hc : 0 ≤ c ∧ c < 1000) (hp : plainT t) : plainT (paintB c t) := by
  refine ⟨fun hb => ?_, fun hb => ?_, by have := paint_size c hc h; omega⟩
  · rcases paint_mem h hb with e | e | e
    · exact seq_not (by decide) (by decide) (by decide) (by decide) e
    · exact hp.1 e
    · revert e; decide
  · rcases paint_mem h hb with e | e | e
    · exact seq_not (by decide) (by decide) (by decide) (by decide) e
    · exact hp.2.1 e
    · revert e; decide

/-- Steps, each text in a color. -/
def paintS (c : Int) (s : Step) : Step := ⟨s.kind, paintB c s.text, s.texts.map (paintB c)⟩
def paintI (c : Int) (x : ByteArray × Nat) : ByteArray × Nat := (paintB c x.1, x.2)
theorem last_paint (c : Int) (l : List (ByteArray × Nat)) : lastLevel (l.map (paintI c)) = lastLevel l := by
  unfold lastLevel
  rw [List.getLast?_map]
  cases l.getLast? <;> rfl
theorem play_paint (c : Int) (s : Step) (st : List (ByteArray × Nat) × Nat) : playStep (st.1.map (paintI c), st.2) (paintS c s) = ((playStep st s).1.map (paintI c), (playStep st s).2) := by
  unfold playStep
  show (if s.kind = 0 then _ else _) = _
  by_cases h0 : s.kind = 0
  · rw [if_pos h0, if_pos h0]; simp [paintS, paintI]
  rw [if_neg h0, if_neg h0]
  by_cases h1 : s.kind = 1
  · rw [if_pos (show (paintS c s).kind = 1 from h1), if_pos h1]
    simp [paintS, paintI, Function.comp_def]
  rw [if_neg (show ¬ (paintS c s).kind = 1 from h1), if_neg h1]
  by_cases h2 : s.kind = 2
  · rw [if_pos (show (paintS c s).kind = 2 from h2), if_pos h2]
    dsimp only
    rw [List.length_map, last_paint]
    split <;> rfl
  rw [if_neg (show ¬ (paintS c s).kind = 2 from h2), if_neg h2]
  by_cases h3 : s.kind = 3
  · rw [if_pos (show (paintS c s).kind = 3 from h3), if_pos h3]
  rw [if_neg (show ¬ (paintS c s).kind = 3 from h3), if_neg h3]
  by_cases h4 : s.kind = 4
  · rw [if_pos (show (paintS c s).kind = 4 from h4), if_pos h4]
  rw [if_neg (show ¬ (paintS c s).kind = 4 from h4), if_neg h4]
  by_cases h5 : s.kind = 5
  · rw [if_pos (show (paintS c s).kind = 5 from h5), if_pos h5]; rfl
  rw [if_neg (show ¬ (paintS c s).kind = 5 from h5), if_neg h5]
theorem play_fold (c : Int) : ∀ (l : List Step) (st : List (ByteArray × Nat) × Nat), (l.map (paintS c)).foldl playStep (st.1.map (paintI c), st.2) = ((l.foldl playStep st).1.map (paintI c), (l.foldl playStep st).2)
  | [], _ => rfl
  | s :: l, st => by
    rw [List.map_cons, List.foldl_cons, List.foldl_cons, play_paint]
    exact play_fold c l (playStep st s)
theorem played_paint (c : Int) (l : List Step) : played (l.map (paintS c)) = (played l).map (paintI c) := congrArg Prod.fst (play_fold c l ([], 0))
theorem cost_paint (c : Int) (l : List Step) : cost (l.map (paintS c)) = cost l := by
  unfold cost
  rw [List.map_map]
  congr 1
  apply List.map_congr_left
  intro s _
  simp [paintS]

/-! ### what is drawn -/
theorem more_paint (c : Int) (lv : Nat) : ∀ items : List (ByteArray × Nat), moreB lv (items.map (paintI c)) = moreB lv items
  | [] => rfl
  | x :: r => by
    rw [List.map_cons, moreB, moreB, more_paint c lv r]; rfl
theorem more_drop (c : Int) (lv n : Nat) (items : List (ByteArray × Nat)) : moreB lv ((items.map (paintI c)).drop n) = moreB lv (items.drop n) := by
  rw [← List.map_drop, more_paint]
theorem first_paint (c : Int) (items : List (ByteArray × Nat)) (i lv : Nat) : firstB (items.map (paintI c)) i lv = firstB items i lv := by
  unfold firstB
  cases i with
  | zero => rfl
  | succ j =>
    simp only [List.getElem?_map]
    cases items[j]? <;> rfl
theorem hint_paint (c : Int) (items : List (ByteArray × Nat)) (i lv : Nat) : hintOf (items.map (paintI c)) i lv = hintOf items i lv := by
  unfold hintOf
  rw [first_paint, more_drop, List.length_map]
theorem ahead_paint (c : Int) (st : StyleV) (items : List (ByteArray × Nat)) (i lv : Nat) : aheadD st (items.map (paintI c)) i lv = aheadD st items i lv := by
  have e : linkD st (items.map (paintI c)) i = linkD st items i := by
    funext k
    unfold linkD
    rw [more_drop]
  unfold aheadD
  rw [e]
theorem line_paint (c : Int) (st : StyleV) (items : List (ByteArray × Nat)) (i lv k : Nat) (t : ByteArray) : lineD st (items.map (paintI c)) i lv k t = lineD st items i lv k t := by
  unfold lineD
  rw [ahead_paint, hint_paint]

theorem replL_keep {nl : List UInt8} : ∀ l : List UInt8, (∀ b ∈ l, b ≠ 10) → replL [10] nl l = l
  | [], _ => replL_nil ..
  | b :: l, h => by
    rw [replL_miss nl (pre10 (h b (by simp)) l), replL_keep l (fun x hx => h x (by simp [hx]))]
theorem lines_one {st : StyleV} {t : ByteArray} (h : ∀ b ∈ bl t, b ≠ 10) : linesOf st t = [t] := by
  have e : bl (textD st t) = bl t := by
    unfold textD
    split
    · rw [bl_mk, replL_keep _ h]
    · rfl
  unfold linesOf
  rw [e, splitL_one h, List.map_cons, List.map_nil, mkB_bl]

/-- A style's texts, without an escape. -/
structure CleanStyle (st : StyleV) : Prop where
  single : cleanL (bl st.single)
  top : cleanL (bl st.top)
  first : cleanL (bl st.first)
  middle : cleanL (bl st.middle)
  vert : cleanL (bl st.vert)
  bottom : cleanL (bl st.bottom)
  pfx : cleanL (bl st.pfx)
theorem clean_spaces (st : StyleV) : cleanL (bl (spacesOf st)) := by
  unfold spacesOf
  rw [bl_mk]
  exact cleanL_spaces _
theorem CleanStyle.ahead {st : StyleV} (h : CleanStyle st) (items : List (ByteArray × Nat)) (i lv : Nat) : cleanL (aheadD st items i lv) := by
  unfold aheadD
  refine cleanL_app h.pfx (cleanL_flat _ _ fun k _ => ?_)
  unfold linkD
  split
  · exact h.vert
  · exact clean_spaces st
theorem CleanStyle.bullet {st : StyleV} (h : CleanStyle st) (hv : HintV) (k : Nat) : cleanL (bulletD st hv k) := by
  unfold bulletD
  split
  · split
    · exact clean_spaces st
    · exact h.vert
  · refine cleanL_app ?_ (cleanL_ascii (by decide))
    unfold bulletS
    repeat' split
    · exact h.single
    · exact h.bottom
    · exact h.top
    · exact h.first
    · exact h.bottom
    · exact h.middle
theorem stp_if10 (p : Prop) [Decidable p] : Stp (if p then [10] else []) (if p then [10] else []) := by
  split
  · exact (cleanL_ascii (by decide)).stp
  · exact Stp.nil
theorem CleanStyle.line {st : StyleV} (h : CleanStyle st) (items : List (ByteArray × Nat)) (i lv k : Nat) {s t : ByteArray} (ht : Stp (bl s) (bl t)) : Stp (lineD st items i lv k s) (lineD st items i lv k t) := by
  unfold lineD
  exact (((stp_if10 _).app (h.ahead items i lv).stp).app (h.bullet _ k).stp).app ht

/-- A letter or a digit of ASCII, or a blank; an item whose text is of these. -/
def nameC (b : UInt8) : Prop := (97 ≤ b.toNat ∧ b.toNat ≤ 122) ∨ (65 ≤ b.toNat ∧ b.toNat ≤ 90) ∨ (48 ≤ b.toNat ∧ b.toNat ≤ 57) ∨ b.toNat = 32
def nameT (t : ByteArray) : Prop := bl t ≠ [] ∧ ∀ b ∈ bl t, nameC b
theorem nameC.ne {b x : UInt8} (h : nameC b) (hx : x.toNat < 32 ∨ 32 < x.toNat ∧ x.toNat < 48) : b ≠ x := by
  rintro rfl
  unfold nameC at h
  omega
theorem nameT.clean {t : ByteArray} (h : nameT t) : cleanL (bl t) := cleanL_ascii fun b hb => ⟨by have := h.2 b hb; unfold nameC at this; omega, (h.2 b hb).ne (by decide)⟩
theorem nameT.no10 {t : ByteArray} (h : nameT t) : ∀ b ∈ bl t, b ≠ 10 := fun b hb => (h.2 b hb).ne (by decide)
theorem nameT.no27 {t : ByteArray} (h : nameT t) : (27 : UInt8) ∉ bl t := fun hb => (h.2 _ hb).ne (by decide) rfl
def nameI (x : ByteArray × Nat) : Prop := nameT x.1
theorem paint_no10 (c : Int) {t : ByteArray} (hne : bl t ≠ []) (h27 : (27 : UInt8) ∉ bl t) (h : ∀ b ∈ bl t, b ≠ 10) : ∀ b ∈ bl (paintB c t), b ≠ 10 := by
  intro b hb
  rw [paint_some c hne h27] at hb
  simp only [List.mem_append] at hb
  rcases hb with (hb | hb) | hb
  · rintro rfl
    exact seq_not (by decide) (by decide) (by decide) (by decide) hb
  · exact h b hb
  · rintro rfl
    revert hb; decide
theorem stp_paint (c : Int) {x : ByteArray × Nat} (h : nameT x.1) : Stp (bl (paintB c x.1)) (bl x.1) := by
  rw [paint_some c h.1 h.no27]
  exact stp_painted c h.clean
theorem stp_cat {α β : Type} {f : Nat → β → List UInt8} {g : Nat → α → List UInt8} {u : α → β} : ∀ (l : List α) (k : Nat), (∀ j x, x ∈ l → Stp (f j (u x)) (g j x)) → Stp (mapCat f k (l.map u)) (mapCat g k l)
  | [], _, _ => Stp.nil
  | x :: r, k, h => by
    rw [List.map_cons, mapCat, mapCat]
    exact (h k x (by simp)).app (stp_cat r (k + 1) (fun j y hy => h j y (by simp [hy])))
theorem stp_drawn (c : Int) {st : StyleV} (hs : CleanStyle st) {items : List (ByteArray × Nat)} (h : ∀ x ∈ items, nameI x) : Stp (drawD st (items.map (paintI c))) (drawD st items) := by
  unfold drawD
  refine stp_cat items 0 fun j x hx => ?_
  have hn : nameT x.1 := h x hx
  unfold itemD
  rw [show (paintI c x).1 = paintB c x.1 from rfl, show (paintI c x).2 = x.2 from rfl, lines_one hn.no10, lines_one (paint_no10 c hn.1 hn.no27 hn.no10)]
  refine (stp_if10 _).app ?_
  simp only [mapCat, List.append_nil]
  rw [line_paint]
  exact hs.line items j x.2 0 (stp_paint c hn)

/-! ### HTML -/
def ascL (l : List UInt8) : Prop := ∀ b ∈ l, b.toNat < 128 ∧ b ≠ 27
theorem ascL.app {a b : List UInt8} (ha : ascL a) (hb : ascL b) : ascL (a ++ b) := fun x hx => (List.mem_append.1 hx).elim (ha x) (hb x)
theorem ascL.esc {l : List UInt8} (h : ascL l) : ascL (escH l) := by
  intro b hb
  unfold escH at hb
  obtain ⟨a, ha, hb⟩ := List.mem_flatMap.1 hb
  have := h a ha
  unfold escB at hb
  repeat' split at hb
  all_goals first
    | (rw [List.mem_singleton.1 hb]; exact this)
    | (refine (?_ : ∀ x ∈ (_ : List UInt8), x.toNat < 128 ∧ x ≠ 27) b hb; decide)
theorem ascL_pre (lv : Nat) : ascL (preH lv) := by
  unfold preH
  have e := Lib.repeatL_replicate 32 2 lv
  rw [show (List.replicate 2 (32 : UInt8)) = [32, 32] from rfl] at e
  rw [e]
  intro b hb
  rw [List.eq_of_mem_replicate hb]; decide
theorem ascL_dec (n : Nat) : ascL (decL n) := fun b hb => by
  have := decL_digits n b hb
  unfold isDigit at this
  refine ⟨by omega, ?_⟩
  rintro rfl
  revert this; decide
theorem ascL_open {css : List UInt8} (h : ascL css) (lv : Nat) : ascL (openH css lv) := by
  unfold openH
  refine ((((ascL_pre lv).app (by unfold ascL; decide)).app h.esc).app ?_).app (by unfold ascL; decide)
  split
  · exact ascL.app (by unfold ascL; decide) (ascL_dec lv)
  · intro b hb; cases hb
theorem ascL_close (lv : Nat) : ascL (closeH lv) := (ascL_pre lv).app (by unfold ascL; decide)
theorem ascL.stp {l : List UInt8} (h : ascL l) : Stp l l := (cleanL_ascii h).stp

theorem escB_keep {b : UInt8} (h : b ≠ 60) (h1 : b ≠ 62) (h2 : b ≠ 38) (h3 : b ≠ 39) (h4 : b ≠ 34) : escB b = [b] := by
  unfold escB
  rw [if_neg h, if_neg h1, if_neg h2, if_neg h3, if_neg h4]
theorem escH_keep : ∀ l : List UInt8, (∀ b ∈ l, escB b = [b]) → escH l = l
  | [], _ => rfl
  | b :: l, h => by
    have e := escH_keep l (fun x hx => h x (by simp [hx]))
    unfold escH at e ⊢
    rw [List.flatMap_cons, h b (by simp), e]; rfl
theorem nameT.esc {t : ByteArray} (h : nameT t) : ∀ b ∈ bl t, escB b = [b] := fun b hb => by
  have hn := h.2 b hb
  have key : ∀ x : UInt8, x.toNat = 60 ∨ x.toNat = 62 ∨ x.toNat = 38 ∨ x.toNat = 39 ∨ x.toNat = 34 → b ≠ x := by
    rintro x hx rfl
    unfold nameC at hn
    omega
  exact escB_keep (key _ (by decide)) (key _ (by decide)) (key _ (by decide)) (key _ (by decide)) (key _ (by decide))
theorem paint_esc (c : Int) {t : ByteArray} (h : nameT t) : ∀ b ∈ bl (paintB c t), escB b = [b] := by
  intro b hb
  rw [paint_some c h.1 h.no27] at hb
  simp only [List.mem_append] at hb
  rcases hb with (hb | hb) | hb
  · rcases seq_mem hb with e | e | e | e
    · rw [e]; rfl
    · rw [e]; rfl
    · rw [e]; rfl
    · unfold isDigit at e
      have key : ∀ x : UInt8, (x.toNat < 48 ∨ 57 < x.toNat) → b ≠ x := by
        rintro x hx rfl
        omega
      exact escB_keep (key _ (by decide)) (key _ (by decide)) (key _ (by decide)) (key _ (by decide)) (key _ (by decide))
  · exact h.esc b hb
  · revert b; decide
theorem lineH_keep {lv : Nat} {t : List UInt8} (h : ∀ b ∈ t, escB b = [b]) (h10 : ∀ b ∈ t, b ≠ 10) : lineH lv t = preH lv ++ [32, 32, 60, 108, 105, 62] ++ t ++ [60, 47, 108, 105, 62, 10] := by
  unfold lineH
  rw [escH_keep _ h, replL_keep _ h10]
theorem stp_line (c : Int) (lv : Nat) {x : ByteArray × Nat} (h : nameT x.1) : Stp (lineH lv (bl (paintB c x.1))) (lineH lv (bl x.1)) := by
  rw [lineH_keep h.esc h.no10, lineH_keep (paint_esc c h) (paint_no10 c h.1 h.no27 h.no10)]
  exact (((ascL_pre lv).stp.app (cleanL_ascii (by decide)).stp).app (stp_paint c h)).app (cleanL_ascii (by decide)).stp
theorem stp_html (c : Int) {css : List UInt8} (hc : ascL css) {items : List (ByteArray × Nat)} (h : ∀ x ∈ items, nameI x) : ∀ f lv i cnt : Nat, Stp (htmlL css (items.map (paintI c)) f lv i cnt).1 (htmlL css items f lv i cnt).1 ∧ (htmlL css (items.map (paintI c)) f lv i cnt).2 = (htmlL css items f lv i cnt).2
  | 0, _, _, _ => ⟨Stp.nil, rfl⟩
  | f + 1, lv, i, cnt => by
    cases hx : items[i]? with
    | none =>
      rw [html_none hx, html_none (by rw [List.getElem?_map, hx]; rfl)]
      exact ⟨Stp.nil, rfl⟩
    | some x =>
      have hn : nameT x.1 := h x (List.mem_of_getElem? hx)
      have hx' : (items.map (paintI c))[i]? = some (paintI c x) := by rw [List.getElem?_map, hx]; rfl
      have e2 : (paintI c x).2 = x.2 := rfl
      by_cases he : x.2 = lv
      · rw [html_same hx he, html_same hx' he]
        obtain ⟨a1, a2⟩ := stp_html c hc h f lv (i + 1) (cnt + 1)
        exact ⟨(stp_line c lv hn).app a1, a2⟩
      · by_cases hd : lv < x.2
        · rw [html_deep hx hd, html_deep hx' (show lv < (paintI c x).2 from hd), e2]
          obtain ⟨a1, a2⟩ := stp_html c hc h f x.2 i 0
          rw [a2]
          obtain ⟨b1, b2⟩ := stp_html c hc h f lv (i + (htmlL css items f x.2 i 0).2) (cnt + (htmlL css items f x.2 i 0).2)
          exact ⟨(((((ascL_open hc x.2).stp).app a1).app (ascL_close x.2).stp).app (stp_if10 _)).app b1, b2⟩
        · have hu : x.2 < lv := by omega
          rw [html_up hx hu, html_up hx' (show (paintI c x).2 < lv from hu)]
          exact ⟨Stp.nil, rfl⟩
theorem stp_all (c : Int) {css : List UInt8} (hc : ascL css) {items : List (ByteArray × Nat)} (h : ∀ x ∈ items, nameI x) : Stp (htmlAll css (items.map (paintI c))) (htmlAll css items) := by
  cases items with
  | nil => exact Stp.nil
  | cons x r =>
    have e : (x :: r).map (paintI c) = paintI c x :: r.map (paintI c) := rfl
    have key := (stp_html c hc h (2 * (x :: r).length + 2) x.2 0 0).1
    unfold htmlAll
    rw [e]
    dsimp only
    rw [← e, List.length_map]
    exact ((ascL_open hc x.2).stp.app key).app (ascL_close x.2).stp
theorem ascL_class : ascL (bl (classOf ⟨#[]⟩)) := by unfold ascL; decide

/-- A list that is drawn with paint is another text, unless it is none. -/
theorem drawn_length (c : Int) (st : StyleV) {items : List (ByteArray × Nat)} (h : ∀ x ∈ items, nameI x) : (drawD st items).length + items.length ≤ (drawD st (items.map (paintI c))).length := by
  have key : ∀ (l : List (ByteArray × Nat)) (k : Nat), (∀ x ∈ l, nameI x) → (mapCat (itemD st items) k l).length + l.length ≤ (mapCat (itemD st (items.map (paintI c))) k (l.map (paintI c))).length := by
    intro l
    induction l with
    | nil => intro k _; exact Nat.le_refl _
    | cons x r ih =>
      intro k hl
      have hn : nameT x.1 := hl x (by simp)
      have := ih (k + 1) (fun y hy => hl y (by simp [hy]))
      rw [List.map_cons, mapCat, mapCat, List.length_append, List.length_append, List.length_cons]
      have e : (itemD st items k x).length + 1 ≤ (itemD st (items.map (paintI c)) k (paintI c x)).length := by
        unfold itemD
        rw [show (paintI c x).1 = paintB c x.1 from rfl, show (paintI c x).2 = x.2 from rfl, lines_one hn.no10, lines_one (paint_no10 c hn.1 hn.no27 hn.no10)]
        simp only [mapCat, List.append_nil, List.length_append]
        rw [line_paint]
        unfold lineD
        rw [paint_some c hn.1 hn.no27]
        simp only [List.length_append]
        have : RESET.length = 4 := rfl
        omega
      omega
  exact key items 0 h
end Go.Proofs.YtdkpacgbniclhaaGreatDoor
namespace Go.Proofs.YtdkpacgbniclhaaGreatDoor
open Go.RowKit
set_option linter.unusedVariables false

def nameCB (b : UInt8) : Bool := decide ((97 ≤ b.toNat ∧ b.toNat ≤ 122) ∨ (65 ≤ b.toNat ∧ b.toNat ≤ 90) ∨ (48 ≤ b.toNat ∧ b.toNat ≤ 57) ∨ b.toNat = 32)
def tightB (t : ByteArray) : Bool := decide (t.size ≠ 0) && (decide ((bl t)[0]? ≠ some 32) && decide ((bl t)[t.size - 1]? ≠ some 32))
def nameB (t : ByteArray) : Bool := (bl t).all nameCB && tightB t
theorem byte_of {s : ByteArray} {j : Nat} (hj : j < s.size) : (bl s)[j]? = some s[j] := by
  rw [List.getElem?_eq_getElem (by rw [bl_size]; exact hj)]; rfl

theorem ne32 (b : UInt8) : decide ((some b : Option UInt8) ≠ some 32) = !decide (((b.toNat : Nat) : Int) = 32) := by
  by_cases h : b = 32
  · subst h; rfl
  · have h2 : ¬ ((b.toNat : Nat) : Int) = 32 := by
      intro e
      apply h
      apply UInt8.toNat_inj.1
      have : b.toNat = 32 := by omega
      rw [this]; rfl
    rw [decide_eq_true (show (some b : Option UInt8) ≠ some 32 from fun e => h (Option.some.inj e)), decide_eq_false h2]; rfl
theorem tight_eq {s : ByteArray} {m : Nat} (hm : s.size = m + 1) (p : 0 < s.size) (q : m < s.size) : tightB s = (!decide (((s[0].toNat : Nat) : Int) = 32) && !decide (((s[m].toNat : Nat) : Int) = 32)) := by
  unfold tightB
  rw [decide_eq_true (show s.size ≠ 0 by omega), Bool.true_and, show s.size - 1 = m by omega, byte_of p, byte_of q, ne32, ne32]

set_option maxRecDepth 100000 in
set_option maxHeartbeats 2000000 in
theorem tight_any (s : ByteArray) (w : World) (hs : s.size ≤ 1099511627776) :
    Calls Tryz.prog 39 #[.string s] w fun e w' => e = .returned (.bool (tightB s)) ∧ w = w' := by
  by_cases h0 : s.size = 0
  · obtain rfl : s = ⟨#[]⟩ := bl_ext (List.eq_nil_of_length_eq_zero (by rw [bl_size]; exact h0))
    go_enter Tryz.func39, Tryz.ntmps39
    go_wp2
    go_ret
    exact ⟨rfl, rfl⟩
  · obtain ⟨m, hm⟩ : ∃ m, s.size = m + 1 := ⟨s.size - 1, by omega⟩
    have hw : wrap64 ((s.size : Int) - 1) = (m : Int) := by rw [hm, IntWalk.wrap64_in _ ⟨by omega, by omega⟩]; omega
    have h1 : (0 : Int) ≤ (m : Int) := by omega
    have h2 : (m : Int) < (s.size : Int) := by omega
    have HT := Lib.hid (fun p q => tight_eq hm p q)
    have HQ := Lib.hid (show m < s.size by omega)
    have hne : s.toList.isEmpty = false := by
      rw [Lib.toList_data]
      cases h : s.data.toList with
      | nil => exfalso; apply h0; rw [← bl_size]; exact congrArg List.length h
      | cons a t => rfl
    clear h0 hm hs
    go_enter Tryz.func39, Tryz.ntmps39
    go_wp2
    all_goals (go_ret; refine ⟨?_, rfl⟩; rw [HT.out (by assumption) HQ.out]; first | (simp [*]; done) | (congr 2; rw [Bool.eq_iff_iff]; simp [*]; done) | (simp [*]; rw [Bool.eq_iff_iff]; simp [*]; done) | (simp [*]; rfl) | skip)

set_option maxRecDepth 100000 in
set_option maxHeartbeats 8000000 in
theorem lsName_any (s : ByteArray) (w : World) (hs : s.size ≤ 1099511627776) :
    Calls Tryz.prog 14 #[.string s] w fun e w' => e = .returned (.bool (nameB s)) ∧ w = w' := by
  go_enter Tryz.func14, Tryz.ntmps14
  go_wp2
  go_loopw [3] (fun v3 wr => wr = w ∧ ∃ k : Nat, k ≤ s.size ∧ v3 = .int .i64 k ∧ Hid ((bl s).all nameCB = ((bl s).drop k).all nameCB)) (fun v3 _ => s.size - (intOf v3).toNat)
  case atStart => exact ⟨rfl, 0, Nat.zero_le _, rfl, Lib.hid rfl⟩
  case round =>
    obtain ⟨hwr, k, hk, rfl, HK⟩ := hrel
    subst hwr
    by_cases hkn : k < s.size
    · have HD := Lib.hid (drop_step (byte_of hkn))
      have HF := Lib.hid (show nameCB s[k] = false → nameB s = false from fun e => by unfold nameB; rw [HK.out, HD.out, List.all_cons, e]; rfl)
      have HG := Lib.hid (show nameCB s[k] = true → (bl s).all nameCB = ((bl s).drop (k + 1)).all nameCB from fun e => by rw [HK.out, HD.out, List.all_cons, e]; rfl)
      have h1 : (0 : Int) ≤ (k : Int) := by omega
      have h2 : (k : Int) < (s.size : Int) := by omega
      have hw : wrap64 ((k : Int) + 1) = (k : Int) + 1 := IntWalk.wrap64_in _ ⟨by omega, by omega⟩
      clear HD HK
      by_cases h32 : ((s[k].toNat : Nat) : Int) = 32
      · have h32b : (((s[k].toNat : Nat) : Int) != 32) = false := by simp [h32]
        go_wp2
        all_goals first
          | (go_ret
             exact ⟨congrArg (fun b => Ending.returned (.bool b)) (HF.out (by unfold nameCB; rw [decide_eq_false_iff_not]; omega)).symm, rfl⟩)
          | (refine ⟨⟨trivial, k + 1, by omega, rfl, Lib.hid (HG.out (by unfold nameCB; rw [decide_eq_true_iff]; omega))⟩, ?_⟩
             simp [intOf]
             omega)
      · have h32b : (((s[k].toNat : Nat) : Int) != 32) = true := by simp [h32]
        go_wp2
        all_goals first
          | (go_ret
             exact ⟨congrArg (fun b => Ending.returned (.bool b)) (HF.out (by unfold nameCB; rw [decide_eq_false_iff_not]; omega)).symm, rfl⟩)
          | (refine ⟨⟨trivial, k + 1, by omega, rfl, Lib.hid (HG.out (by unfold nameCB; rw [decide_eq_true_iff]; omega))⟩, ?_⟩
             simp [intOf]
             omega)
    · obtain rfl : k = s.size := by omega
      have HA := Lib.hid (show nameB s = tightB s by unfold nameB; rw [HK.out, List.drop_eq_nil_of_le (by rw [bl_size]; exact Nat.le_refl _)]; rfl)
      go_wp2_with fail
      refine (tight_any s _ hs).mono ?_
      rintro e w' ⟨rfl, rfl⟩
      go_wp2
      go_ret
      exact ⟨congrArg (fun b => Ending.returned (.bool b)) HA.out.symm, rfl⟩
end Go.Proofs.YtdkpacgbniclhaaGreatDoor
namespace Go.Proofs.YtdkpacgbniclhaaGreatDoor
open Go.RowKit
set_option linter.unusedVariables false
set_option linter.unusedSimpArgs false

theorem text_ok {t : ByteArray} (h : textB t = true) : simpleB t true = true ∧ t.size ≤ 200 := by
  have e : simpleB t true = true := by unfold textB at h; simp only [Bool.and_eq_true] at h; exact h.2
  refine ⟨e, ?_⟩
  unfold textB at h
  simp only [Bool.and_eq_true, decide_eq_true_eq] at h
  omega
theorem paint_bounds {c : Int} {t : ByteArray} (hc : 0 ≤ c ∧ c < 1000) (h : textB t = true) : (esc2 (bl t) (seq1L c)).length ≤ 60000 ∧ (escL (bl t) (seq1L c)).length ≤ 60000 := by
  obtain ⟨hs, hz⟩ := text_ok h
  have hq := seq1_len c hc
  rw [seq_one]
  by_cases hne : bl t = []
  · rw [hne]
    constructor
    · have e1 : esc1 [] (seqL [c]) = seqL [c] := by
        rw [esc1, escPre, if_neg (by decide), replL_nil, List.append_nil]
      unfold esc2 escPost
      rw [e1, List.length_append]
      split <;> simp [RESET] <;> omega
    · rcases esc_none c with e | e <;> rw [e]
      · simp
      · omega
  · obtain ⟨e1, e2⟩ := esc_plain [c] (by simp) (bl t) hne (simple_no27 hs)
    have hb : (bl t).length = t.size := bl_size t
    rw [e1, e2]
    simp [RESET]
    omega
theorem str_one (w : World) (y : ByteArray) : StrsAt (w.alloc (.cells #[.string y] 9)) (w.alloc (.cells #[.string y] 9)).heap.size (some ⟨w.heap.size, 0, none⟩) 1 1 [y] :=
  ⟨rfl, Nat.le_refl _, by omega, fun _ => ⟨_, rfl, by simp, cell_one_new _ _ _⟩⟩

set_option maxRecDepth 100000 in
set_option maxHeartbeats 4000000 in
theorem painting_any (c : Int) (b : Nat) (t : ByteArray) (w : World) (hc : 0 ≤ c ∧ c < 1000) (h : textB t = true) (hb : w.cell? ⟨b, 0, none⟩ = some (.int .i64 c)) :
    Calls Tryz.prog 16 #[.string t, .pointer (some ⟨b, 0, none⟩)] w fun e w' => e = .returned (.string (paintB c t)) ∧ Below w.heap.size w w' := by
  have hbn := paint_bounds hc h
  have hz := (text_ok h).2
  have hst := str_one w t
  have hba := (Below.refl w.heap.size w).alloc (Nat.le_refl _) (.cells #[.string t] 9)
  go_enter Tryz.func16, Tryz.ntmps16
  go_wp2_with fail
  refine (colorPrint_any c _ 1 1 [t] t _ hc (by omega) (by simp) (by omega) (by omega) (by omega) hst).mono ?_
  rintro e w' ⟨rfl, hb'⟩
  go_wp2
  go_ret
  exact ⟨rfl, hba.trans (hb'.mono hba.size)⟩

theorem own_far_set {w : World} {base e size n : Nat} {v : Value} {xs : List Value} (h : w.ownsRow base e size v n xs) (p : Addr) (hp : p.block < base) (u : Value) : (w.setCell p u).ownsRow base e size v n xs := by
  obtain ⟨h1, h2⟩ := h
  refine ⟨h1, ?_⟩
  rcases h2 with h2 | ⟨g, cap, cur, hv, hg, hh, r⟩
  · exact Or.inl h2
  · exact Or.inr ⟨g, cap, cur, hv, hg, (heap_setCell_other w p g u (by omega)).trans hh, r⟩
/-- A step with texts that lie in a row of the program's own. -/
theorem src_own {w : World} {B base kc : Nat} {v5 : Value} {fr : Nat × Nat} {kd : Int} {t : ByteArray} {v : Value} {ts : List ByteArray} {n : Nat} {k5 : Nat} {G5 : Nat → Prop} {l5 : List Step} (hc : w.heap[kc]? = some (.cells #[.int .i64 kd, .string t, v] 66 fr)) (hown : w.ownsRow base 9 1 v n (ts.map Value.string)) (h5 : OwnSteps w B G5 v5 k5 l5) (hne : ∀ k, v5.ownBlock = some k → k < base) :
    SrcSteps w (fun k => k < w.heap.size ∧ some k ≠ v5.ownBlock) (some ⟨kc, 0, none⟩) 1 1 [⟨kd, t, ts⟩] := by
  obtain ⟨A, cc, rfl, hrd⟩ := own_rd hown
  refine ⟨[.int .i64 kd, .string t, .slice A n cc], rfl, fun e => (by cases e), fun ad e => ?_, rfl, fun k s hk => ?_⟩
  · injection e with e
    subst e
    exact World.news_of_block (cs := #[.int .i64 kd, .string t, .slice A n cc]) hc
  · match k, hk with
    | 0, hk =>
      simp at hk
      subst hk
      refine ⟨A, n, cc, rfl, rfl, rfl, hrd, fun _ ad e => ?_⟩
      subst e
      rcases hown.2 with ⟨h0, _⟩ | ⟨g, cap, cur, hv, hg, hh, _⟩
      · cases h0
      · injection hv with hv
        injection hv with hv
        subst hv
        refine ⟨(Array.getElem?_eq_some_iff.1 hh).1, fun e => ?_⟩
        have := hne g e.symm
        omega
    | k + 1, hk => simp at hk
theorem wpOp_of {P : Program} {ops : Array Oper} {Q : Exit → Act → World → Prop} {i : Nat} {o : Oper} {K : Act → World → Prop} {a : Act} {w : World} (hi : ops[i]? = some o) (hg : o.guard = none) (h : o.wp P a w K Q) : wpOp P ops Q i K a w := by
  have hw : Region.wanted o (yielded ops a.tmps) = true := by simp [Region.wanted, hg]
  unfold wpOp
  rw [hi]
  dsimp only
  rw [if_pos hw]
  exact Or.inl h
theorem wp_append_str {o : Oper} {a : Act} {K : Act → World → Prop} {Q : Exit → Act → World → Prop} {w : World} (s x : Operand)
    (ho : o.op = .call { callee := .builtin .append, args := #[s, x], argTypes := #[35, 35] })
    (B : Nat) (v : Value) (n : Nat) (xs : List Value) (hs : a.eval s = v) (hown : w.ownsRow B 9 1 v n xs) (ad : Addr) (y : ByteArray) (hx : a.eval x = .slice (some ad) 1 1) (hcell : ∀ j u, [Value.string y][j]? = some u → w.cell? (ad.add j) = some u)
    (hn : n + 1 ≤ 1099511627776) (hB : B ≤ w.heap.size)
    (hK : ∀ v' w', w'.ownsRow B 9 1 v' (n + 1) (xs ++ [.string y]) → w.grownBy w' v.ownBlock → K (a.put o.dst v') w') : Oper.wp Tryz.prog o a w K Q := by
  obtain ⟨i0, hi, hz0, hz1, hz2⟩ := info_parts infoStr
  obtain ⟨v', w', hr, hown', hgrow, _, _⟩ := run_append_own_at (P := Tryz.prog) w B 35 o.type 9 i0 (.string ⟨#[]⟩) 1 16 Tryz.underlying35 hi hz0 hz1 hz2 rfl (by decide) v n xs hown ad 1 1 [.string y] rfl hcell (by intro u hu; simp at hu; subst hu; rfl) (by unfold maxLen; omega) (by omega) hB
  unfold Oper.wp execOp
  simp only [ho, resolve, invoke, builtin, Sem.run_bind, Sem.run_pure, Result.andThen_ok, List.map_toArray, List.map_cons, List.map_nil, hs, hx, hr]
  exact hK v' w' hown' hgrow
theorem asz (w : World) (o : Obj) : (w.alloc o).heap.size = w.heap.size + 1 := by simp
theorem OwnSteps.top {w : World} {B n : Nat} {G : Nat → Prop} {v : Value} {l : List Step} (h : OwnSteps w B G v n l) : OwnSteps w B (fun k => k < w.heap.size ∧ some k ≠ v.ownBlock) v n l := by
  obtain ⟨xs, h1, h2, hG, h3⟩ := h
  exact ⟨xs, h1, h2, fun k hk => hk, fun k s hk => (h3 k s hk).weak hG⟩
theorem OwnSteps.none0 (w : World) (B : Nat) : OwnSteps w B (fun _ => False) (.slice none 0 0) 0 [] :=
  ⟨[], ⟨rfl, Or.inl ⟨rfl, rfl⟩⟩, rfl, fun _ h => h.elim, fun k s hk => by simp at hk⟩
set_option maxRecDepth 100000 in
set_option maxHeartbeats 8000000 in
theorem mapped_any (c : Int) (b : Nat) (A : Option Addr) (n cap : Nat) (l : List Step) (w : World) (h : StepsAt w w.heap.size A n cap l) (hc : 0 ≤ c ∧ c < 1000) (htx : ∀ s ∈ l, textB s.text = true ∧ s.texts.length ≤ 10 ∧ ∀ t ∈ s.texts, textB t = true) (hcell : w.cell? ⟨b, 0, none⟩ = some (.int .i64 c)) (hb : b < w.heap.size) (hn : n ≤ 300) :
    Calls Tryz.prog 15 #[.slice A n cap, .func (.func 16) #[] #[.pointer (some ⟨b, 0, none⟩)]] w fun e w' => ∃ v G, e = .returned v ∧ OwnSteps w' w.heap.size G v n (l.map (paintS c)) ∧ Below w.heap.size w w' := by
  have HL := Lib.hid h.len
  have HTX := Lib.hid htx
  clear htx
  go_enter Tryz.func15, Tryz.ntmps15
  go_wp2
  go_loopw [5, 13] (fun v5 v13 wr => ∃ k : Nat, k ≤ n ∧ v13 = .int .i64 k ∧ Below w.heap.size w wr ∧ ∃ G, OwnSteps wr w.heap.size G v5 k ((l.take k).map (paintS c))) (fun _ v13 _ => n - (intOf v13).toNat)
  case atStart => exact ⟨0, Nat.zero_le _, rfl, Below.refl _ _, _, OwnSteps.none0 _ _⟩
  case round =>
    obtain ⟨k, hk, rfl, hbw, G, hown⟩ := hrel
    have hsz := hbw.size
    by_cases hlt : k < n
    · obtain ⟨ad, s, A', n', c', rfl, _, hy, hc0, hc1, hc2, hst⟩ := (h.below hbw).at_ hlt
      have hk1 : (k : Int) < (n : Int) := by omega
      have hcl := (World.cell?_of_block (w := w) (hbw.block b hb)).trans hcell
      have HY := Lib.hid hy
      have HS := Lib.hid (HTX.out s (List.mem_of_getElem? hy))
      have hown2 := Lib.hid hown
      have hst2 := Lib.hid hst
      clear hy hown hst
      go_upto_region 5 with (fail)
      obtain ⟨w1, hw1⟩ : ∃ w1, w1 = wr.alloc (.cells #[.int .i64 s.kind, .string s.text, .slice A' n' c'] 66) := ⟨_, rfl⟩
      have hb1 : Below wr.heap.size wr w1 := by rw [hw1]; exact (Below.refl _ _).alloc (Nat.le_refl _) _
      have hs1 : wr.heap.size < w1.heap.size := by rw [hw1]; simp
      have hk7 : w1.heap[wr.heap.size]? = some (.cells #[.int .i64 s.kind, .string s.text, .slice A' n' c'] 66 (0, 0)) := by rw [hw1]; exact heap_alloc_new wr _
      rw [← hw1]
      clear hw1
      have HCL := Lib.hid (fun (W : World) (hW : Below w1.heap.size w1 W) => (World.cell?_of_block (w := w1) (hW.block b (by omega))).trans ((World.cell?_of_block (w := wr) (hb1.block b (by omega))).trans hcl))
      have HBOX := Lib.hid (fun (W : World) (hW : Below w1.heap.size w1 W) => (⟨blk_cell ((hW.block _ hs1).trans hk7) 0, blk_cell ((hW.block _ hs1).trans hk7) 1, hW⟩ : W.cell? ⟨wr.heap.size, 0, none⟩ = some (.int .i64 s.kind) ∧ W.cell? ⟨wr.heap.size, 1, none⟩ = some (.string s.text) ∧ Below w1.heap.size w1 W))
      have HK7 := Lib.hid hk7
      clear hk7 hcl hc0 hc1 hc2
      go_cut [8] (fun v8 wx => ∃ q, v8 = .pointer (some ⟨q, 0, none⟩) ∧ w1.heap.size ≤ q ∧ wx.heap[q]? = some (.cells #[.int .i64 s.kind, .string (paintB c s.text), .slice none 0 0] 66 (0, 0)) ∧ Below w1.heap.size w1 wx)
      case first =>
        go_region_held3 (fun w' => w'.cell? ⟨wr.heap.size, 0, none⟩ = some (.int .i64 s.kind) ∧ w'.cell? ⟨wr.heap.size, 1, none⟩ = some (.string s.text) ∧ Below w1.heap.size w1 w') (exact HBOX.out _ (by (repeat (first | assumption | exact Below.refl _ _ | refine Below.drew ?_ | refine Below.setCell ?_ (by first | omega | (simp; done) | (simp; omega)) _ | refine Below.alloc ?_ (by first | omega | (simp; done) | (simp; omega)) _)))) (first | (go_at_call 16; refine (painting_any c b s.text _ hc HS.out.1 (HCL.out _ (by (repeat (first | assumption | exact Below.refl _ _ | refine Below.drew ?_ | refine Below.setCell ?_ (by first | omega | (simp; done) | (simp; omega)) _ | refine Below.alloc ?_ (by first | omega | (simp; done) | (simp; omega)) _))))).mono ?_; rintro e w4 ⟨rfl, hb4⟩; have hbA : Below w1.heap.size w1 w4 := Below.trans (by (repeat (first | assumption | exact Below.refl _ _ | refine Below.drew ?_ | refine Below.setCell ?_ (by first | omega | (simp; done) | (simp; omega)) _ | refine Below.alloc ?_ (by first | omega | (simp; done) | (simp; omega)) _))) (hb4.mono (by first | omega | (simp; done) | (simp; omega))); have hs4 := hbA.size; (try (have hq4 : w4.heap[w1.heap.size]? = some (.cells #[.int .i64 0, .string ⟨#[]⟩, .slice none 0 0] 66 (0, 0)) := (hb4.block _ (by simp)).trans (heap_alloc_new _ _); have q40 := blk_cell hq4 0; have q41 := blk_cell hq4 1; have q42 := blk_cell hq4 2; have q43 := blk_frozen hq4 0; have q44 := blk_frozen hq4 1; have q45 := blk_frozen hq4 2))))
        · go_step
          go_step
          go_meet
          exact ⟨w4.heap.size, rfl, hs4, heap_alloc_new _ _, hbA.alloc hs4 _⟩
        · go_step
          go_step
          go_meet
          exact ⟨w1.heap.size, rfl, Nat.le_refl _, heap_setCell_same _ w1.heap.size 2 _ _ _ (heap_setCell_same _ w1.heap.size 1 _ _ _ (heap_setCell_same _ w1.heap.size 0 _ _ _ hq4)), by (repeat (first | assumption | exact Below.refl _ _ | refine Below.drew ?_ | refine Below.setCell ?_ (by first | omega | (simp; done) | (simp; omega)) _ | refine Below.alloc ?_ (by first | omega | (simp; done) | (simp; omega)) _))⟩
      case rest =>
        obtain ⟨q, rfl, hq, hqk, hbc⟩ := hcut
        have hsc := hbc.size
        have hk72 := blk_cell ((hbc.block _ hs1).trans HK7.out) 2
        have HN' := Lib.hid (show s.texts.length = n' from hst2.out.len)
        have hn' : n' ≤ 10 := by rw [← HN'.out]; exact HS.out.2.1
        obtain ⟨wo, rfl⟩ : ∃ wo : World, wo = wc := ⟨_, rfl⟩
        have hqlt : q < wo.heap.size := blk_lt hqk
        obtain ⟨wp, rfl⟩ : ∃ wp : World, wp = wr := ⟨_, rfl⟩
        go_wp2_with fail
        go_loopw [27] (fun v27 wv => ∃ (j : Nat) (sv : Value), j ≤ n' ∧ v27 = .int .i64 j ∧ wv.heap[q]? = some (.cells #[.int .i64 s.kind, .string (paintB c s.text), sv] 66 (0, 0)) ∧ wv.ownsRow wo.heap.size 9 1 sv j ((s.texts.take j).map (fun t => .string (paintB c t))) ∧ Below w1.heap.size w1 wv ∧ wo.heap.size ≤ wv.heap.size) (fun v27 _ => n' - (intOf v27).toNat)
        case atStart => exact ⟨0, .slice none 0 0, Nat.zero_le _, rfl, hqk, World.ownsRow_nil _ _ _ _, hbc, Nat.le_refl _⟩
        case round =>
          clear hqk hbc hsc hk72
          obtain ⟨j, sv, hj, rfl, hqk, hrow, hbv, hsv⟩ := hrel
          obtain ⟨wv, rfl⟩ : ∃ wv : World, wv = wr := ⟨_, rfl⟩
          have hsv1 := hbv.size
          have hbp : Below wp.heap.size wp wv := hb1.trans (hbv.mono (by omega))
          by_cases hlt2 : j < n'
          · obtain ⟨A8, c8, rfl, _⟩ := own_rd hrow
            obtain ⟨ad2, y, rfl, _, hy2, hcy⟩ := StrsAt.at_ (StrsAt.below hst2.out (hbp.mono hsz)) hlt2
            have hyT : textB y = true := HS.out.2.2 y (List.mem_of_getElem? hy2)
            have HY2 := Lib.hid hy2
            have hq2 := blk_cell hqk 2
            have hq2d : wv.drew.cell? ⟨q, 2, none⟩ = some (.slice A8 j c8) := hq2
            have hrowd := World.ownsRow.drew hrow
            have hqv : q < wv.heap.size := by omega
            have hj1 : (j : Int) < (n' : Int) := by omega
            clear hy2
            go_upto_region 9 with (fail)
            refine wp_region_any (by rfl) (show wpAny _ _ _ _ _ _ _ wv.drew from ?_)
            refine wpAny_take (i := 0) (v := ?tv1) rfl (by kernel_rfl) (by kernel_rfl) (by kernel_rfl) (fun _ _ _ h => h) (Or.inl ⟨by rfl, ?ty1⟩) ?tr1
            case ty1 => (intro w; (try simp only [List.getElem_toArray, List.getElem_cons_succ, List.getElem_cons_zero]); go_simp; try with_reducible rfl)
            try simp only [Act.put, List.getElem_toArray, List.getElem_cons_succ, List.getElem_cons_zero, List.setIfInBounds_toArray, List.set_cons_zero, List.set_cons_succ]
            refine wpAny_take (i := 2) (v := ?tv2) rfl (by kernel_rfl) (by kernel_rfl) (by kernel_rfl) (fun _ _ _ h => h) (Or.inl ⟨by rfl, ?ty2⟩) ?tr2
            case ty2 => (intro w; (try simp only [List.getElem_toArray, List.getElem_cons_succ, List.getElem_cons_zero]); go_simp; try with_reducible rfl)
            try simp only [Act.put, List.getElem_toArray, List.getElem_cons_succ, List.getElem_cons_zero, List.setIfInBounds_toArray, List.set_cons_zero, List.set_cons_succ]
            refine wpAny_take (i := 3) (v := ?tv3) rfl (by kernel_rfl) (by kernel_rfl) (by kernel_rfl) (fun _ _ _ h => h) (Or.inl ⟨by rfl, ?ty3⟩) ?tr3
            case ty3 => (intro w; (try simp only [List.getElem_toArray, List.getElem_cons_succ, List.getElem_cons_zero]); go_simp; try with_reducible rfl)
            try simp only [Act.put, List.getElem_toArray, List.getElem_cons_succ, List.getElem_cons_zero, List.setIfInBounds_toArray, List.set_cons_zero, List.set_cons_succ]
            refine wpAny_all (rs := [1, 4]) (by kernel_rfl) (by simp) (fun i hi => ?_)
            simp only [List.mem_cons, List.not_mem_nil, or_false] at hi
            rcases hi with rfl | rfl
            · skip
              refine wpOp_of rfl rfl ?_
              try simp only [Act.put, List.getElem_toArray, List.getElem_cons_succ, List.getElem_cons_zero, List.setIfInBounds_toArray, List.set_cons_zero, List.set_cons_succ]
              go_simp
              refine wpAny_all (rs := [4]) (by kernel_rfl) (by simp) (fun i hi => ?_)
              obtain rfl : i = 4 := by simpa using hi
              clear hi
              refine wpOp_of rfl rfl ?_
              try simp only [Act.put, List.getElem_toArray, List.getElem_cons_succ, List.getElem_cons_zero, List.setIfInBounds_toArray, List.set_cons_zero, List.set_cons_succ]
              go_simp
              refine (painting_any c b y _ hc hyT (HCL.out _ hbv.drew)).mono ?_
              rintro e w5 ⟨rfl, hb5⟩
              have hs5 : wv.heap.size ≤ w5.heap.size := hb5.size
              have hbA : Below w1.heap.size w1 w5 := Below.trans (hbv.drew) (hb5.mono hsv1)
              have hqk5 : w5.heap[q]? = some (.cells #[.int .i64 s.kind, .string (paintB c s.text), .slice A8 j c8] 66 (0, 0)) := (hb5.block q hqv).trans hqk
              have hq52 := blk_cell hqk5 2
              have hq5a : ∀ o, (w5.alloc o).cell? ⟨q, 2, none⟩ = some (.slice A8 j c8) := fun o => blk_cell ((heap_alloc_old w5 o (blk_lt hqk5)).trans hqk5) 2
              have hrow5 := own_below hrowd hb5 (Nat.le_refl _)
              dsimp only
              refine wpAny_all (rs := [5]) (by kernel_rfl) (by simp) (fun i hi => ?_)
              obtain rfl : i = 5 := by simpa using hi
              clear hi
              refine wpOp_of rfl rfl ?_
              try simp only [Act.put, List.getElem_toArray, List.getElem_cons_succ, List.getElem_cons_zero, List.setIfInBounds_toArray, List.set_cons_zero, List.set_cons_succ]
              go_simp
              refine wpAny_all (rs := [6]) (by kernel_rfl) (by simp) (fun i hi => ?_)
              obtain rfl : i = 6 := by simpa using hi
              clear hi
              refine wpOp_of rfl rfl ?_
              try simp only [Act.put, List.getElem_toArray, List.getElem_cons_succ, List.getElem_cons_zero, List.setIfInBounds_toArray, List.set_cons_zero, List.set_cons_succ]
              refine wp_append_str _ _ (by rfl) wo.heap.size _ j _ (by rfl) (hrow5.alloc _) ⟨w5.heap.size, 0, none⟩ (paintB c y) (by rfl) (cell_one_new _ _ _) (by omega) (by first | omega | (simp; done) | (simp; omega)) ?_
              intro v' w6 hown' hgrow
              obtain ⟨A6, c6, rfl, _⟩ := own_rd hown'
              have hbB : Below w1.heap.size w1 w6 := (hbA.alloc (by omega) _).grown hgrow (by first | omega | (simp; done) | (simp; omega)) (fun k hk => by have := (World.ownsRow.lt hrow5 k hk).1; omega)
              have hs6 : wo.heap.size ≤ w6.heap.size := Nat.le_trans hsv (Nat.le_trans hs5 (Nat.le_trans (Nat.le_succ _) (Nat.le_trans (Nat.le_of_eq (asz _ _).symm) hgrow.size)))
              have hqk6 : w6.heap[q]? = some (.cells #[.int .i64 s.kind, .string (paintB c s.text), .slice A8 j c8] 66 (0, 0)) := (hgrow.block q (by first | omega | (simp; done) | (simp; omega)) (fun e => by have := (World.ownsRow.lt hrow5 q e.symm).1; omega)).trans ((heap_alloc_old w5 _ (blk_lt hqk5)).trans hqk5)
              have hq62 := blk_cell hqk6 2
              have hf62 := blk_frozen hqk6 2
              dsimp only
              try simp only [Act.put, List.getElem_toArray, List.getElem_cons_succ, List.getElem_cons_zero, List.setIfInBounds_toArray, List.set_cons_zero, List.set_cons_succ]
              refine wpAny_take (i := 7) (v := ?tv4) rfl (by kernel_rfl) (by kernel_rfl) (by kernel_rfl) (fun _ _ _ h => h) (Or.inl ⟨by rfl, ?ty4⟩) ?tr4
              case ty4 => (intro w; (try simp only [List.getElem_toArray, List.getElem_cons_succ, List.getElem_cons_zero]); go_simp; try with_reducible rfl)
              try simp only [Act.put, List.getElem_toArray, List.getElem_cons_succ, List.getElem_cons_zero, List.setIfInBounds_toArray, List.set_cons_zero, List.set_cons_succ]
              refine wpAny_all (rs := [8]) (by kernel_rfl) (by simp) (fun i hi => ?_)
              obtain rfl : i = 8 := by simpa using hi
              clear hi
              refine wpOp_of rfl rfl ?_
              try simp only [Act.put, List.getElem_toArray, List.getElem_cons_succ, List.getElem_cons_zero, List.setIfInBounds_toArray, List.set_cons_zero, List.set_cons_succ]
              go_simp
              refine wpAny_done (by kernel_rfl) ?_ _
              have hrow7 := own_far_set hown' ⟨q, 2, none⟩ hqlt (.slice A6 (j + 1) c6)
              have hqk7 := heap_setCell_same _ q 2 _ _ (.slice A6 (j + 1) c6) hqk6
              have hbD : Below w1.heap.size w1 (w6.setCell ⟨q, 2, none⟩ (.slice A6 (j + 1) c6)) := hbB.setCell hq (.slice A6 (j + 1) c6)
              clear hqk6 hq62 hf62 hbB hown' hq52 hq5a hrow5 hqk5 hbA
              go_wp2
              go_roundw
              case rel =>
                refine ⟨j + 1, (.slice A6 (j + 1) c6), by omega, by go_num, hqk7, ?_, hbD, by (simp [World.setCell]; omega)⟩
                rw [take_step HY2.out, List.map_append]
                exact hrow7
              case measure => simp [intOf]; omega
            · skip
              refine wpOp_of rfl rfl ?_
              try simp only [Act.put, List.getElem_toArray, List.getElem_cons_succ, List.getElem_cons_zero, List.setIfInBounds_toArray, List.set_cons_zero, List.set_cons_succ]
              go_simp
              refine (painting_any c b y _ hc hyT (HCL.out _ hbv.drew)).mono ?_
              rintro e w5 ⟨rfl, hb5⟩
              have hs5 : wv.heap.size ≤ w5.heap.size := hb5.size
              have hbA : Below w1.heap.size w1 w5 := Below.trans (hbv.drew) (hb5.mono hsv1)
              have hqk5 : w5.heap[q]? = some (.cells #[.int .i64 s.kind, .string (paintB c s.text), .slice A8 j c8] 66 (0, 0)) := (hb5.block q hqv).trans hqk
              have hq52 := blk_cell hqk5 2
              have hq5a : ∀ o, (w5.alloc o).cell? ⟨q, 2, none⟩ = some (.slice A8 j c8) := fun o => blk_cell ((heap_alloc_old w5 o (blk_lt hqk5)).trans hqk5) 2
              have hrow5 := own_below hrowd hb5 (Nat.le_refl _)
              dsimp only
              refine wpAny_all (rs := [1, 5]) (by kernel_rfl) (by simp) (fun i hi => ?_)
              simp only [List.mem_cons, List.not_mem_nil, or_false] at hi
              rcases hi with rfl | rfl
              · skip
                refine wpOp_of rfl rfl ?_
                try simp only [Act.put, List.getElem_toArray, List.getElem_cons_succ, List.getElem_cons_zero, List.setIfInBounds_toArray, List.set_cons_zero, List.set_cons_succ]
                go_simp
                refine wpAny_all (rs := [5]) (by kernel_rfl) (by simp) (fun i hi => ?_)
                obtain rfl : i = 5 := by simpa using hi
                clear hi
                refine wpOp_of rfl rfl ?_
                try simp only [Act.put, List.getElem_toArray, List.getElem_cons_succ, List.getElem_cons_zero, List.setIfInBounds_toArray, List.set_cons_zero, List.set_cons_succ]
                go_simp
                refine wpAny_all (rs := [6]) (by kernel_rfl) (by simp) (fun i hi => ?_)
                obtain rfl : i = 6 := by simpa using hi
                clear hi
                refine wpOp_of rfl rfl ?_
                try simp only [Act.put, List.getElem_toArray, List.getElem_cons_succ, List.getElem_cons_zero, List.setIfInBounds_toArray, List.set_cons_zero, List.set_cons_succ]
                refine wp_append_str _ _ (by rfl) wo.heap.size _ j _ (by rfl) (hrow5.alloc _) ⟨w5.heap.size, 0, none⟩ (paintB c y) (by rfl) (cell_one_new _ _ _) (by omega) (by first | omega | (simp; done) | (simp; omega)) ?_
                intro v' w6 hown' hgrow
                obtain ⟨A6, c6, rfl, _⟩ := own_rd hown'
                have hbB : Below w1.heap.size w1 w6 := (hbA.alloc (by omega) _).grown hgrow (by first | omega | (simp; done) | (simp; omega)) (fun k hk => by have := (World.ownsRow.lt hrow5 k hk).1; omega)
                have hs6 : wo.heap.size ≤ w6.heap.size := Nat.le_trans hsv (Nat.le_trans hs5 (Nat.le_trans (Nat.le_succ _) (Nat.le_trans (Nat.le_of_eq (asz _ _).symm) hgrow.size)))
                have hqk6 : w6.heap[q]? = some (.cells #[.int .i64 s.kind, .string (paintB c s.text), .slice A8 j c8] 66 (0, 0)) := (hgrow.block q (by first | omega | (simp; done) | (simp; omega)) (fun e => by have := (World.ownsRow.lt hrow5 q e.symm).1; omega)).trans ((heap_alloc_old w5 _ (blk_lt hqk5)).trans hqk5)
                have hq62 := blk_cell hqk6 2
                have hf62 := blk_frozen hqk6 2
                dsimp only
                try simp only [Act.put, List.getElem_toArray, List.getElem_cons_succ, List.getElem_cons_zero, List.setIfInBounds_toArray, List.set_cons_zero, List.set_cons_succ]
                refine wpAny_take (i := 7) (v := ?tv5) rfl (by kernel_rfl) (by kernel_rfl) (by kernel_rfl) (fun _ _ _ h => h) (Or.inl ⟨by rfl, ?ty5⟩) ?tr5
                case ty5 => (intro w; (try simp only [List.getElem_toArray, List.getElem_cons_succ, List.getElem_cons_zero]); go_simp; try with_reducible rfl)
                try simp only [Act.put, List.getElem_toArray, List.getElem_cons_succ, List.getElem_cons_zero, List.setIfInBounds_toArray, List.set_cons_zero, List.set_cons_succ]
                refine wpAny_all (rs := [8]) (by kernel_rfl) (by simp) (fun i hi => ?_)
                obtain rfl : i = 8 := by simpa using hi
                clear hi
                refine wpOp_of rfl rfl ?_
                try simp only [Act.put, List.getElem_toArray, List.getElem_cons_succ, List.getElem_cons_zero, List.setIfInBounds_toArray, List.set_cons_zero, List.set_cons_succ]
                go_simp
                refine wpAny_done (by kernel_rfl) ?_ _
                have hrow7 := own_far_set hown' ⟨q, 2, none⟩ hqlt (.slice A6 (j + 1) c6)
                have hqk7 := heap_setCell_same _ q 2 _ _ (.slice A6 (j + 1) c6) hqk6
                have hbD : Below w1.heap.size w1 (w6.setCell ⟨q, 2, none⟩ (.slice A6 (j + 1) c6)) := hbB.setCell hq (.slice A6 (j + 1) c6)
                clear hqk6 hq62 hf62 hbB hown' hq52 hq5a hrow5 hqk5 hbA
                go_wp2
                go_roundw
                case rel =>
                  refine ⟨j + 1, (.slice A6 (j + 1) c6), by omega, by go_num, hqk7, ?_, hbD, by (simp [World.setCell]; omega)⟩
                  rw [take_step HY2.out, List.map_append]
                  exact hrow7
                case measure => simp [intOf]; omega
              · skip
                refine wpOp_of rfl rfl ?_
                try simp only [Act.put, List.getElem_toArray, List.getElem_cons_succ, List.getElem_cons_zero, List.setIfInBounds_toArray, List.set_cons_zero, List.set_cons_succ]
                go_simp
                refine wpAny_all (rs := [1]) (by kernel_rfl) (by simp) (fun i hi => ?_)
                obtain rfl : i = 1 := by simpa using hi
                clear hi
                refine wpOp_of rfl rfl ?_
                try simp only [Act.put, List.getElem_toArray, List.getElem_cons_succ, List.getElem_cons_zero, List.setIfInBounds_toArray, List.set_cons_zero, List.set_cons_succ]
                go_simp
                refine wpAny_all (rs := [6]) (by kernel_rfl) (by simp) (fun i hi => ?_)
                obtain rfl : i = 6 := by simpa using hi
                clear hi
                refine wpOp_of rfl rfl ?_
                try simp only [Act.put, List.getElem_toArray, List.getElem_cons_succ, List.getElem_cons_zero, List.setIfInBounds_toArray, List.set_cons_zero, List.set_cons_succ]
                refine wp_append_str _ _ (by rfl) wo.heap.size _ j _ (by rfl) (hrow5.alloc _) ⟨w5.heap.size, 0, none⟩ (paintB c y) (by rfl) (cell_one_new _ _ _) (by omega) (by first | omega | (simp; done) | (simp; omega)) ?_
                intro v' w6 hown' hgrow
                obtain ⟨A6, c6, rfl, _⟩ := own_rd hown'
                have hbB : Below w1.heap.size w1 w6 := (hbA.alloc (by omega) _).grown hgrow (by first | omega | (simp; done) | (simp; omega)) (fun k hk => by have := (World.ownsRow.lt hrow5 k hk).1; omega)
                have hs6 : wo.heap.size ≤ w6.heap.size := Nat.le_trans hsv (Nat.le_trans hs5 (Nat.le_trans (Nat.le_succ _) (Nat.le_trans (Nat.le_of_eq (asz _ _).symm) hgrow.size)))
                have hqk6 : w6.heap[q]? = some (.cells #[.int .i64 s.kind, .string (paintB c s.text), .slice A8 j c8] 66 (0, 0)) := (hgrow.block q (by first | omega | (simp; done) | (simp; omega)) (fun e => by have := (World.ownsRow.lt hrow5 q e.symm).1; omega)).trans ((heap_alloc_old w5 _ (blk_lt hqk5)).trans hqk5)
                have hq62 := blk_cell hqk6 2
                have hf62 := blk_frozen hqk6 2
                dsimp only
                try simp only [Act.put, List.getElem_toArray, List.getElem_cons_succ, List.getElem_cons_zero, List.setIfInBounds_toArray, List.set_cons_zero, List.set_cons_succ]
                refine wpAny_take (i := 7) (v := ?tv6) rfl (by kernel_rfl) (by kernel_rfl) (by kernel_rfl) (fun _ _ _ h => h) (Or.inl ⟨by rfl, ?ty6⟩) ?tr6
                case ty6 => (intro w; (try simp only [List.getElem_toArray, List.getElem_cons_succ, List.getElem_cons_zero]); go_simp; try with_reducible rfl)
                try simp only [Act.put, List.getElem_toArray, List.getElem_cons_succ, List.getElem_cons_zero, List.setIfInBounds_toArray, List.set_cons_zero, List.set_cons_succ]
                refine wpAny_all (rs := [8]) (by kernel_rfl) (by simp) (fun i hi => ?_)
                obtain rfl : i = 8 := by simpa using hi
                clear hi
                refine wpOp_of rfl rfl ?_
                try simp only [Act.put, List.getElem_toArray, List.getElem_cons_succ, List.getElem_cons_zero, List.setIfInBounds_toArray, List.set_cons_zero, List.set_cons_succ]
                go_simp
                refine wpAny_done (by kernel_rfl) ?_ _
                have hrow7 := own_far_set hown' ⟨q, 2, none⟩ hqlt (.slice A6 (j + 1) c6)
                have hqk7 := heap_setCell_same _ q 2 _ _ (.slice A6 (j + 1) c6) hqk6
                have hbD : Below w1.heap.size w1 (w6.setCell ⟨q, 2, none⟩ (.slice A6 (j + 1) c6)) := hbB.setCell hq (.slice A6 (j + 1) c6)
                clear hqk6 hq62 hf62 hbB hown' hq52 hq5a hrow5 hqk5 hbA
                go_wp2
                go_roundw
                case rel =>
                  refine ⟨j + 1, (.slice A6 (j + 1) c6), by omega, by go_num, hqk7, ?_, hbD, by (simp [World.setCell]; omega)⟩
                  rw [take_step HY2.out, List.map_append]
                  exact hrow7
                case measure => simp [intOf]; omega
          · have hjn : j = n' := by omega
            subst hjn
            rw [List.take_of_length_le (by rw [HN'.out]; exact Nat.le_refl _)] at hrow
            obtain ⟨A9, c9, rfl, _⟩ := own_rd hrow
            have hq0 := blk_cell hqk 0
            have hq1 := blk_cell hqk 1
            have hq2 := blk_cell hqk 2
            have hbwv := hbw.trans (hbp.mono hsz)
            have hszv := hbwv.size
            have hA := (Below.refl wv.heap.size wv).alloc (Nat.le_refl _) (.cells #[.int .i64 s.kind, .string (paintB c s.text), .slice A9 j c9] 66)
            have hown5 := hown2.out.below hbp
            have hown6 := (hown5.below hA).top
            have hrow6 : (wv.alloc (.cells #[.int .i64 s.kind, .string (paintB c s.text), .slice A9 j c9] 66)).ownsRow wo.heap.size 9 1 (.slice A9 j c9) j ((s.texts.map (paintB c)).map Value.string) := by
              rw [List.map_map]
              exact hrow.alloc _
            have hsrc := src_own (heap_alloc_new wv (.cells #[.int .i64 s.kind, .string (paintB c s.text), .slice A9 j c9] 66)) hrow6 hown6 (fun k hk => by have := (hown2.out.lt hk).2; have := hb1.size; omega)
            have HOW := Lib.hid (fun k (hk : u5.ownBlock = some k) => (hown2.out.lt hk).1)
            clear hown5 hrow6 hrow hqk
            go_wp2_with (at_builtin; go_loud (refine wpList_append_steps rfl _ _ rfl w.heap.size _ _ _ _ rfl hown6 (some ⟨wv.heap.size, 0, none⟩) 1 1 [paintS c s] rfl hsrc (by omega) (by simp; omega) ?_))
            intro v' w3 hown' hgrow _
            have hb3 := (hbwv.alloc hszv (.cells #[.int .i64 s.kind, .string (paintB c s.text), .slice A9 j c9] 66)).grown hgrow (by simp; omega) (fun k hk => HOW.out k hk)
            clear hown6 hsrc hgrow hbwv hA hq0 hq1 hq2
            go_wp2
            go_roundw
            case rel =>
              have e : (l.take (k + 1)).map (paintS c) = (l.map (paintS c)).take k ++ [paintS c s] := by rw [take_step HY.out, List.map_append, List.map_take]; rfl
              rw [← e] at hown'
              exact ⟨k + 1, by omega, by go_num, hb3, _, hown'⟩
            case measure => simp [intOf]; omega
    · have hkn : k = n := by omega
      subst hkn
      rw [List.take_of_length_le (by rw [HL.out]; exact Nat.le_refl _)] at hown
      go_wp2
      go_ret
      exact ⟨_, _, rfl, hown, hbw⟩
end Go.Proofs.YtdkpacgbniclhaaGreatDoor
namespace Go.Proofs.YtdkpacgbniclhaaGreatDoor
open Go.RowKit
set_option linter.unusedVariables false
set_option linter.unusedSimpArgs false

theorem nameB_T {t : ByteArray} (h : nameB t = true) : nameT t := by
  unfold nameB tightB at h
  simp only [Bool.and_eq_true, decide_eq_true_eq, List.all_eq_true] at h
  refine ⟨fun e => h.2.1 ?_, fun b hb => ?_⟩
  · rw [← bl_size, e]; rfl
  · have := h.1 b hb
    unfold nameCB at this
    unfold nameC
    exact of_decide_eq_true this
theorem style_clean {st : StyleV} (h : lsStyledB st = true) : CleanStyle st ∧ styledB st = true := by
  have h0 := h
  unfold lsStyledB at h
  simp only [Bool.and_eq_true, List.all_cons, List.all_nil, Bool.and_true, decide_eq_true_eq] at h
  obtain ⟨⟨h1, h2, h3, h4, h5, h6, h7⟩, hv, hf, hn⟩ := h
  have key : ∀ x, fieldB x = true → cleanL (bl x) := by
    intro x hx
    unfold fieldB at hx
    simp only [Bool.and_eq_true] at hx
    exact cleanL_simple hx.2
  refine ⟨⟨key _ h1, key _ h2, key _ h3, key _ h4, key _ h5, key _ h6, key _ h7⟩, ?_⟩
  have e : st.newline = ⟨#[10]⟩ := bl_ext hn
  rw [styled_split]
  have e2 : ({ st with newline := ⟨#[10]⟩ } : StyleV) = st := by rw [← e]
  rw [e2, h0, e]
  decide
theorem starMd_facts : ∀ r ∈ runes (starSt ⟨#[32, 32]⟩ ⟨#[60, 98, 114, 47, 62]⟩).vert, r ≠ 10 ∧ wideB r = false := by
  intro r hr
  have e : runes (starSt ⟨#[32, 32]⟩ ⟨#[60, 98, 114, 47, 62]⟩).vert = [32, 32] := by
    show runes ⟨[32, 32].toArray⟩ = _
    rw [runes_mk [32, 32] (by decide)]
    rfl
  rw [e] at hr
  simp at hr
  subst hr
  decide
theorem starMd_small : styleSmall (starSt ⟨#[32, 32]⟩ ⟨#[60, 98, 114, 47, 62]⟩) := ⟨rfl, by decide, by decide, by decide, by decide, by decide, by decide, by decide, by decide⟩
theorem md_same {l : List Step} (hr : rightB l = true) : drawnT (starSt ⟨#[32, 32]⟩ ⟨#[60, 98, 114, 47, 62]⟩) (played l) = drawD mdStyle (played l) := by
  rw [drawn_eq starMd_facts (Or.inr (by decide)) (right_simple hr)]
  rfl
theorem mdClean : CleanStyle mdStyle := by
  refine ⟨?_, ?_, ?_, ?_, ?_, ?_, ?_⟩ <;> exact cleanL_ascii (by decide)
theorem drawn_more (c : Int) (hc : 0 ≤ c ∧ c < 1000) (st : StyleV) {items : List (ByteArray × Nat)} (h : ∀ x ∈ items, nameI x) : (drawD st (items.map (paintI c))).length ≤ (drawD st items).length + 12 * items.length := by
  have key : ∀ (l : List (ByteArray × Nat)) (k : Nat), (∀ x ∈ l, nameI x) → (mapCat (itemD st (items.map (paintI c))) k (l.map (paintI c))).length ≤ (mapCat (itemD st items) k l).length + 12 * l.length := by
    intro l
    induction l with
    | nil => intro k _; exact Nat.le_refl _
    | cons x r ih =>
      intro k hl
      have hn : nameT x.1 := hl x (by simp)
      have := ih (k + 1) (fun y hy => hl y (by simp [hy]))
      rw [List.map_cons, mapCat, mapCat, List.length_append, List.length_append, List.length_cons]
      have e : (itemD st (items.map (paintI c)) k (paintI c x)).length ≤ (itemD st items k x).length + 12 := by
        unfold itemD
        rw [show (paintI c x).1 = paintB c x.1 from rfl, show (paintI c x).2 = x.2 from rfl, lines_one hn.no10, lines_one (paint_no10 c hn.1 hn.no27 hn.no10)]
        simp only [mapCat, List.append_nil, List.length_append]
        rw [line_paint]
        unfold lineD
        rw [paint_some c hn.1 hn.no27]
        simp only [List.length_append]
        have h1 : RESET.length = 4 := rfl
        have h2 := seq1_len c hc
        omega
      omega
  exact key items 0 h
theorem html_all_size {items : List (ByteArray × Nat)} (hn : items.length ≤ 2000) (hi : ∀ x ∈ items, x.1.size ≤ 100000 ∧ x.2 ≤ 2000) {css : List UInt8} (hc : css.length ≤ 1000) : (htmlAll css items).length ≤ 5300000000 := by
  cases items with
  | nil => exact Nat.zero_le _
  | cons x r =>
    unfold htmlAll
    dsimp only
    have hx := (hi x (by simp)).2
    have h1 := open_len (lv := x.2) hx hc
    have h2 := close_len (lv := x.2) hx
    obtain ⟨a1, a2, a3, _⟩ := html_size css (x :: r) hc hi (2 * (x :: r).length + 2) x.2 0 0 (Nat.zero_le _) (Or.inl (by omega))
    rw [List.length_append, List.length_append]
    have : ((htmlL css (x :: r) (2 * (x :: r).length + 2) x.2 0 0).2 - 0) * 2600000 ≤ 2000 * 2600000 := Nat.mul_le_mul_right _ (by omega)
    omega

/-- The painted steps are as the drawing asks. -/
theorem right_texts {l : List Step} (h : rightB l = true) : ∀ s ∈ l, textB s.text = true ∧ s.texts.length ≤ 10 ∧ ∀ t ∈ s.texts, textB t = true := by
  unfold rightB at h
  simp only [Bool.and_eq_true] at h
  intro s hs
  have h1 := List.all_eq_true.1 h.1 s hs
  unfold stepRightB at h1
  simp only [Bool.and_eq_true, decide_eq_true_eq, List.all_eq_true] at h1
  exact ⟨h1.1, h1.2.1, h1.2.2⟩
theorem painted_fine {l : List Step} (c : Int) (hc : 0 ≤ c ∧ c < 1000) (h : rightB l = true) : Fine (l.map (paintS c)) := by
  obtain ⟨h1, h2, h3⟩ := right_plain h
  have ht := right_texts h
  have key : ∀ t, textB t = true → plainT t → plainT (paintB c t) := fun t a b => paint_plain c (text_ok a).1 (text_ok a).2 hc b
  have key2 : ∀ t, textB t = true → (paintB c t).size ≤ 1000 := fun t a => by have := paint_size c hc (text_ok a).1; have := (text_ok a).2; omega
  refine ⟨by rw [List.length_map]; omega, by rw [cost_paint]; omega, fun s hs => ?_, fun s hs => ?_⟩
  · obtain ⟨s0, hs0, rfl⟩ := List.mem_map.1 hs
    refine ⟨key _ (ht s0 hs0).1 (h1 s0 hs0).1, fun t ht2 => ?_⟩
    obtain ⟨t0, ht0, rfl⟩ := List.mem_map.1 (show t ∈ s0.texts.map (paintB c) from ht2)
    exact key _ ((ht s0 hs0).2.2 t0 ht0) ((h1 s0 hs0).2 t0 ht0)
  · obtain ⟨s0, hs0, rfl⟩ := List.mem_map.1 hs
    refine ⟨key2 _ (ht s0 hs0).1, fun t ht2 => ?_⟩
    obtain ⟨t0, ht0, rfl⟩ := List.mem_map.1 (show t ∈ s0.texts.map (paintB c) from ht2)
    exact key2 _ ((ht s0 hs0).2.2 t0 ht0)

/-- What the law asks of the three drawings. -/
structure Painted (st : StyleV) (l lm : List Step) : Prop where
  fine : Fine lm
  strip1 : (⟨(stripL (runes ⟨(drawD st (played lm)).toArray⟩) false).toArray⟩ : ByteArray) = ⟨(drawD st (played l)).toArray⟩
  size1 : (⟨(drawD st (played lm)).toArray⟩ : ByteArray).size ≤ 1099511627776
  strip2 : (⟨(stripL (runes ⟨(drawD mdStyle (played lm)).toArray⟩) false).toArray⟩ : ByteArray) = ⟨(drawD mdStyle (played l)).toArray⟩
  size2 : (⟨(drawD mdStyle (played lm)).toArray⟩ : ByteArray).size ≤ 1099511627776
  strip3 : (⟨(stripL (runes ⟨(htmlAll (bl (classOf ⟨#[]⟩)) (played lm)).toArray⟩) false).toArray⟩ : ByteArray) = ⟨(htmlAll (bl (classOf ⟨#[]⟩)) (played l)).toArray⟩
  size3 : (⟨(htmlAll (bl (classOf ⟨#[]⟩)) (played lm)).toArray⟩ : ByteArray).size ≤ 1099511627776
  other : (⟨(drawD st (played lm)).toArray⟩ : ByteArray) ≠ ⟨(drawD st (played l)).toArray⟩ ∨ ((⟨(drawD st (played lm)).toArray⟩ : ByteArray) = ⟨#[]⟩ ∧ (⟨(drawD st (played l)).toArray⟩ : ByteArray) = ⟨#[]⟩)
theorem painted_all {st : StyleV} {l : List Step} (c : Int) (hc : 0 ≤ c ∧ c < 1000) (hr : rightB l = true) (hs : lsStyledB st = true) (hn : ∀ x ∈ played l, nameB x.1 = true) : Painted st l (l.map (paintS c)) := by
  obtain ⟨hcs, hsty⟩ := style_clean hs
  have hnI : ∀ x ∈ played l, nameI x := fun x hx => nameB_T (hn x hx)
  have hp := played_paint c l
  have hst := (styled_facts hsty).1
  have hit := right_tight hr
  have hd1 : (drawD st (played l)).length ≤ 1000000000 := by rw [← draws_same hr hsty]; exact drawn_size hst hr
  have hd2 : (drawD mdStyle (played l)).length ≤ 1000000000 := by rw [← md_same hr]; exact drawn_size starMd_small hr
  have hf := painted_fine c hc hr
  refine ⟨hf, ?_, ?_, ?_, ?_, ?_, ?_, ?_⟩
  · rw [hp]; exact congrArg (fun q : List UInt8 => (⟨q.toArray⟩ : ByteArray)) (stp_drawn c hcs hnI).done
  · rw [hp, mk_size]
    have := drawn_more c hc st hnI
    omega
  · rw [hp]; exact congrArg (fun q : List UInt8 => (⟨q.toArray⟩ : ByteArray)) (stp_drawn c mdClean hnI).done
  · rw [hp, mk_size]
    have := drawn_more c hc mdStyle hnI
    omega
  · rw [hp]; exact congrArg (fun q : List UInt8 => (⟨q.toArray⟩ : ByteArray)) (stp_all c ascL_class hnI).done
  · rw [mk_size]
    have h1 := hf.drawn
    have := html_all_size (css := bl (classOf ⟨#[]⟩)) h1.1 (fun x hx => by have := h1.2 x hx; omega) (by decide)
    omega
  · rw [hp]
    cases hq : played l with
    | nil => right; exact ⟨rfl, rfl⟩
    | cons x r =>
      left
      intro e
      have h1 := drawn_length c st hnI
      have e2 := congrArg ByteArray.size e
      rw [mk_size, mk_size, ← hq] at e2
      rw [hq] at h1
      rw [hq] at e2
      simp only [List.length_cons] at h1
      omega
theorem tStrip_any (s : ByteArray) (w : World) (hs : s.size ≤ 1099511627776) :
    Calls Tryz.prog 19 #[.string s] w fun e w' => e = .returned (.string ⟨(stripL (runes s) false).toArray⟩) ∧ Below w.heap.size w w' := by
  go_enter Tryz.func19, Tryz.ntmps19
  go_wp2_with fail
  refine (strip_any s _ hs).mono ?_
  rintro e w' ⟨rfl, hb⟩
  go_wp2
  go_ret
  exact ⟨rfl, hb⟩
theorem toList_ne {a b : ByteArray} (h : a ≠ b) : a.toList ≠ b.toList := fun e => h (bl_ext (by rw [Lib.toList_data, Lib.toList_data] at e; exact e))
end Go.Proofs.YtdkpacgbniclhaaGreatDoor
namespace Go.Proofs.YtdkpacgbniclhaaGreatDoor
open Go.RowKit
set_option linter.unusedVariables false
set_option linter.unusedSimpArgs false

theorem flatI_at {l : List (ByteArray × Nat)} : ∀ {k : Nat} {x : ByteArray × Nat}, l[k]? = some x → (flatI l)[2 * k]? = some (.string x.1) ∧ (flatI l)[2 * k + 1]? = some (.int .i64 x.2) := by
  induction l with
  | nil => intro k x h; simp at h
  | cons y l ih =>
    intro k x h
    match k, h with
    | 0, h => simp at h; subst h; exact ⟨rfl, rfl⟩
    | k + 1, h =>
      have h2 := ih (k := k) (x := x) (by simpa using h)
      show ((.string y.1 :: .int .i64 y.2 :: flatI l : List Value))[2 * (k + 1)]? = _ ∧ ((.string y.1 :: .int .i64 y.2 :: flatI l : List Value))[2 * (k + 1) + 1]? = _
      rw [show 2 * (k + 1) = 2 * k + 1 + 1 by omega, List.getElem?_cons_succ, List.getElem?_cons_succ, List.getElem?_cons_succ, List.getElem?_cons_succ]
      exact h2
theorem OwnItems.at_ {w : World} {B : Nat} {v : Value} {l : List (ByteArray × Nat)} (h : OwnItems w B v l) : ∃ A c, v = .slice A l.length c ∧ ItemsAt w w.heap.size A l.length c l := by
  obtain ⟨A, c, hv, hr⟩ := own_rd h
  exact ⟨A, c, hv, _, hr, rfl, fun k x hx => flatI_at hx⟩
theorem StepsAt.drew {w : World} {B n c : Nat} {A : Option Addr} {l : List Step} (h : StepsAt w B A n c l) : StepsAt w.drew B A n c l := by
  obtain ⟨xs, h1, h2, h3⟩ := h
  refine ⟨xs, h1.drew, h2, fun k s hk => ?_⟩
  obtain ⟨A', n', c', a, b, c1, d⟩ := h3 k s hk
  exact ⟨A', n', c', a, b, c1, Rd.drew d⟩

set_option maxRecDepth 100000 in
set_option maxHeartbeats 16000000 in
theorem listsPainted_any (A : Option Addr) (n c : Nat) (l : List Step) (st : StyleV) (x : Int) (w : World) (h : StepsAt w w.heap.size A n c l) (hnm : st.nm = ⟨#[]⟩) :
    Calls Tryz.prog 3 #[.slice A n c, st.arg, .int .i64 x] w fun e w' => e = .returned (.bool true) ∧ Below w.heap.size w w' := by
  unfold StyleV.arg
  have hbox0 := (Below.refl w.heap.size w).alloc (Nat.le_refl _) (.cells #[.int .i64 st.fmt, .string st.single, .string st.top, .string st.first, .string st.middle, .string st.vert, .string st.bottom, .string st.newline, .string st.pfx] 24)
  have hbox := hbox0.alloc hbox0.size (.cells #[.int .i64 x] 3)
  have h1 := (h.below hbox).more hbox.size
  have hhb0 : (w.alloc (.cells #[.int .i64 st.fmt, .string st.single, .string st.top, .string st.first, .string st.middle, .string st.vert, .string st.bottom, .string st.newline, .string st.pfx] 24)).heap[w.heap.size]? = some (.cells #[.int .i64 st.fmt, .string st.single, .string st.top, .string st.first, .string st.middle, .string st.vert, .string st.bottom, .string st.newline, .string st.pfx] 24 (0, 0)) := heap_alloc_new w _
  have hhb : ((w.alloc (.cells #[.int .i64 st.fmt, .string st.single, .string st.top, .string st.first, .string st.middle, .string st.vert, .string st.bottom, .string st.newline, .string st.pfx] 24)).alloc (.cells #[.int .i64 x] 3)).heap[w.heap.size]? = some (.cells #[.int .i64 st.fmt, .string st.single, .string st.top, .string st.first, .string st.middle, .string st.vert, .string st.bottom, .string st.newline, .string st.pfx] 24 (0, 0)) := (heap_alloc_old _ _ (blk_lt hhb0)).trans hhb0
  have hhx : ((w.alloc (.cells #[.int .i64 st.fmt, .string st.single, .string st.top, .string st.first, .string st.middle, .string st.vert, .string st.bottom, .string st.newline, .string st.pfx] 24)).alloc (.cells #[.int .i64 x] 3)).heap[w.heap.size + 1]? = some (.cells #[.int .i64 x] 3 (0, 0)) := by
    have := heap_alloc_new (w.alloc (.cells #[.int .i64 st.fmt, .string st.single, .string st.top, .string st.first, .string st.middle, .string st.vert, .string st.bottom, .string st.newline, .string st.pfx] 24)) (.cells #[.int .i64 x] 3)
    rw [asz] at this
    exact this
  obtain ⟨w0, hw0⟩ : ∃ w0, w0 = ((w.alloc (.cells #[.int .i64 st.fmt, .string st.single, .string st.top, .string st.first, .string st.middle, .string st.vert, .string st.bottom, .string st.newline, .string st.pfx] 24)).alloc (.cells #[.int .i64 x] 3)) := ⟨_, rfl⟩
  have hlt0 : w.heap.size + 1 < w0.heap.size := by rw [hw0, asz, asz]; omega
  clear h hhb0 hbox0
  cases hf : fitStepsB l with
  | false =>
    have HFS := Lib.hid hf
    clear hf
    go_enter Tryz.func3, Tryz.ntmps3
    go_wp2_with fail
    rw [← hw0] at hbox h1 hhb hhx ⊢
    clear hw0
    refine (fitSteps_any A n c l _ h1).mono ?_
    rintro e w1 ⟨rfl, hb1⟩
    rw [HFS.out]
    have hb2 := hbox.trans (hb1.mono hbox.size)
    clear h1 hhb hhx hb1
    go_wp2
    go_ret
    exact ⟨rfl, hb2⟩
  | true =>
  have HFS := Lib.hid hf
  clear hf
  have hfs := fun W => fitStyle_any st W
  unfold StyleV.arg at hfs
  obtain ⟨fb, hfb⟩ : ∃ fb, fb = fitStyleB st := ⟨_, rfl⟩
  rw [← hfb] at hfs
  have HFT := Lib.hid hfs
  clear hfs hfb
  go_enter Tryz.func3, Tryz.ntmps3
  go_wp2_with fail
  rw [← hw0] at hbox h1 hhb hhx ⊢
  clear hw0
  refine (fitSteps_any A n c l _ h1).mono ?_
  rintro e w1 ⟨rfl, hb1⟩
  rw [HFS.out]
  have hblk1 : w1.heap[w.heap.size]? = _ := (hb1.block w.heap.size (blk_lt hhb)).trans hhb
  have hx1 : w1.heap[w.heap.size + 1]? = _ := (hb1.block (w.heap.size + 1) hlt0).trans hhx
  have k0 := blk_cell hblk1 0
  have k1 := blk_cell hblk1 1
  have k2 := blk_cell hblk1 2
  have k3 := blk_cell hblk1 3
  have k4 := blk_cell hblk1 4
  have k5 := blk_cell hblk1 5
  have k6 := blk_cell hblk1 6
  have k7 := blk_cell hblk1 7
  have k8 := blk_cell hblk1 8
  go_wp2_with fail
  refine (HFT.out _).mono ?_
  rintro e w2 ⟨rfl, hb2⟩
  have hb02 := hb1.trans (hb2.mono hb1.size)
  have hbw2 := hbox.trans (hb02.mono hbox.size)
  have h2 := (h1.below hb02).more hb02.size
  have hblk2 : w2.heap[w.heap.size]? = _ := (hb2.block w.heap.size (blk_lt hblk1)).trans hblk1
  have hx2 : w2.heap[w.heap.size + 1]? = _ := (hb2.block (w.heap.size + 1) (blk_lt hx1)).trans hx1
  have hlt2 : w.heap.size + 1 < w2.heap.size := blk_lt hx2
  clear k0 k1 k2 k3 k4 k5 k6 k7 k8 hblk1 hx1 hhb hhx h1 hb1 hb2 HFT
  cases fb with
  | false =>
    go_wp2
    go_ret
    exact ⟨rfl, hbw2⟩
  | true =>
  cases hr : rightB l with
  | false =>
    have HR := Lib.hid hr
    clear hr
    go_wp2_with fail
    refine (right_any A n c l _ h2).mono ?_
    rintro e w4 ⟨rfl, hb4⟩
    rw [HR.out]
    have hbZ := hbw2.trans (hb4.mono hbw2.size)
    go_wp2
    go_ret
    exact ⟨rfl, hbZ⟩
  | true =>
  have HR := Lib.hid hr
  have HFI := Lib.hid (Fine.of_right hr)
  have hsty := fun W => lsStyled_any st W
  unfold StyleV.arg at hsty
  obtain ⟨sb, hsb⟩ : ∃ sb, sb = lsStyledB st := ⟨_, rfl⟩
  rw [← hsb] at hsty
  have HSTY := Lib.hid hsty
  have HSB := Lib.hid hsb
  clear hsty hsb
  have HBOX := Lib.hid (fun (W : World) (hW : Below w2.heap.size w2 W) => box9 hblk2 (by omega) hW)
  have HX := Lib.hid (fun (W : World) (hW : Below w2.heap.size w2 W) => blk_cell ((hW.block (w.heap.size + 1) hlt2).trans hx2) 0)
  have HBLK := Lib.hid hblk2
  clear hr hblk2 hx2
  go_wp2_with fail
  refine (right_any A n c l _ h2).mono ?_
  rintro e w4 ⟨rfl, hb4⟩
  rw [HR.out]
  obtain ⟨k0, k1, k2, k3, k4, k5, k6, k7, k8, _⟩ := HBOX.out _ hb4
  go_wp2_with fail
  refine (HSTY.out _).mono ?_
  rintro e w5 ⟨rfl, hb5⟩
  have hb25 := hb4.trans (hb5.mono hb4.size)
  have h5 := (h2.below hb25).more hb25.size
  clear k0 k1 k2 k3 k4 k5 k6 k7 k8 hb5 hb4 HSTY
  cases sb with
  | false =>
    have hbZ := hbw2.trans (hb25.mono hbw2.size)
    go_wp2
    go_ret
    exact ⟨rfl, hbZ⟩
  | true =>
  have kx := HX.out _ hb25
  cases hat : attrB x with
  | false =>
    have HAT := Lib.hid hat
    clear hat
    have hbZ := hbw2.trans (hb25.mono hbw2.size)
    go_wp2_with fail
    refine (attr_any x _).mono ?_
    rintro e w6 ⟨rfl, rfl⟩
    rw [HAT.out]
    go_wp2
    go_ret
    exact ⟨rfl, hbZ⟩
  | true =>
  have HAT := Lib.hid hat
  have hx : 0 ≤ x ∧ x < 1000 := by have := attr_range hat; omega
  clear hat
  go_wp2_with fail
  refine (attr_any x _).mono ?_
  rintro e w6 ⟨rfl, rfl⟩
  rw [HAT.out]
  clear kx
  go_wp2_with fail
  refine (played_any A n c l _ h5 (by have := HFI.out.cost; omega)).mono ?_
  rintro e w7 ⟨v7, rfl, hown7, hb7⟩
  obtain ⟨A7, c7, rfl, h7⟩ := hown7.at_
  obtain ⟨mn, hmn⟩ : ∃ mn, mn = (played l).length := ⟨_, rfl⟩
  rw [← hmn] at h7 ⊢
  have HMN := Lib.hid hmn
  have hb27 := hb25.trans (hb7.mono hb25.size)
  have hm2 : mn ≤ 2000 := by rw [hmn]; exact HFI.out.drawn.1
  clear h5 hown7 hb7 hb25 hmn
  go_wp2_with fail
  go_loopw [36] (fun v36 wr => ∃ k : Nat, k ≤ mn ∧ v36 = .int .i64 k ∧ Hid (∀ y ∈ (played l).take k, nameB y.1 = true) ∧ Below w7.heap.size w7 wr) (fun v36 _ => mn - (intOf v36).toNat)
  case atStart => exact ⟨0, Nat.zero_le _, rfl, Lib.hid (by intro y hy; simp at hy), Below.refl _ _⟩
  case round =>
    obtain ⟨k, hk, rfl, HK, hbr⟩ := hrel
    have hb2r := hb27.trans (hbr.mono hb27.size)
    by_cases hlt : k < mn
    · obtain ⟨ad, y, rfl, _, hy, hc0, hc1⟩ := (h7.below hbr).at_ hlt
      have hk1 : (k : Int) < (mn : Int) := by omega
      have hys : y.1.size ≤ 1099511627776 := by have := (right_tight HR.out).2 y (List.mem_of_getElem? hy); omega
      have HY := Lib.hid hy
      have hbr3 := hbr.alloc hbr.size (.cells #[.string y.1, .int .i64 y.2] 31)
      have hbZ := hbw2.trans ((hb27.trans (hbr3.mono hb27.size)).mono hbw2.size)
      clear hy
      cases hnb : nameB y.1 with
      | false =>
        have HNB := Lib.hid hnb
        clear hnb
        go_wp2_with fail
        refine (lsName_any y.1 _ hys).mono ?_
        rintro e w8 ⟨rfl, rfl⟩
        rw [HNB.out]
        go_wp2
        go_ret
        exact ⟨rfl, hbZ⟩
      | true =>
        have HNB := Lib.hid hnb
        clear hnb
        go_wp2_with fail
        refine (lsName_any y.1 _ hys).mono ?_
        rintro e w8 ⟨rfl, rfl⟩
        rw [HNB.out]
        go_wp2
        go_roundw
        case rel =>
          refine ⟨k + 1, by omega, by go_num, Lib.hid ?_, hbr3⟩
          intro z hz
          rw [take_step HY.out, List.mem_append, List.mem_singleton] at hz
          rcases hz with hz | rfl
          · exact HK.out z hz
          · exact HNB.out
        case measure => simp [intOf]; omega
    · have hkm : k = mn := by omega
      subst hkm
      have hnames : ∀ y ∈ played l, nameB y.1 = true := by
        have := HK.out
        rw [List.take_of_length_le (by rw [HMN.out]; exact Nat.le_refl _)] at this
        exact this
      have HP := Lib.hid (painted_all x hx HR.out HSB.out.symm hnames)
      have hn80 : n ≤ 300 := by have h80 := (right_plain HR.out).2.2; have := h2.len; omega
      have hM := mapped_any x (w.heap.size + 1) A n c l wr ((h2.below hb2r).more hb2r.size) hx (right_texts HR.out) (HX.out _ hb2r) (by have := hb2r.size; omega) hn80
      clear hnames HK HMN h7
      go_wp2_with fail
      refine hM.mono ?_
      rintro e w9 ⟨v9, G9, rfl, hown9, hb9⟩
      obtain ⟨A9, c9, rfl, hat9, _⟩ := hown9.at_
      clear hown9 hM
      have hb29 := hb2r.trans (hb9.mono hb2r.size)
      have hblk9 : w9.heap[w.heap.size]? = _ := (hb29.block w.heap.size (by omega)).trans HBLK.out
      have HBOX9 := Lib.hid (fun (W : World) (hW : Below w9.heap.size w9 W) => box9 hblk9 (blk_lt hblk9) hW)
      have H9 := Lib.hid (fun (W : World) (hW : Below w9.heap.size w9 W) => (hat9.below hW).more hW.size)
      have hl9 := (h2.below hb29).more hb29.size
      have HL9 := Lib.hid (fun (W : World) (hW : Below w9.heap.size w9 W) => (hl9.below hW).more hW.size)
      have HF := Lib.hid (fun (W : World) (hW : Below w9.heap.size w9 W) => hbw2.trans ((hb29.trans (hW.mono hb29.size)).mono hbw2.size))
      have hst := (styled_facts (style_clean HSB.out.symm).2).1
      have hP := HP.out
      obtain ⟨lm, hlm⟩ : ∃ lm, lm = l.map (paintS x) := ⟨_, rfl⟩
      rw [← hlm] at hP hat9 H9
      obtain ⟨o1, ho1⟩ : ∃ o : ByteArray, o = ⟨(drawD st (played lm)).toArray⟩ := ⟨_, rfl⟩
      obtain ⟨o0, ho0⟩ : ∃ o : ByteArray, o = ⟨(drawD st (played l)).toArray⟩ := ⟨_, rfl⟩
      obtain ⟨m1, hm1⟩ : ∃ o : ByteArray, o = ⟨(drawD mdStyle (played lm)).toArray⟩ := ⟨_, rfl⟩
      obtain ⟨m0, hm0⟩ : ∃ o : ByteArray, o = ⟨(drawD mdStyle (played l)).toArray⟩ := ⟨_, rfl⟩
      obtain ⟨t1, ht1⟩ : ∃ o : ByteArray, o = ⟨(htmlAll (bl (classOf ⟨#[]⟩)) (played lm)).toArray⟩ := ⟨_, rfl⟩
      obtain ⟨t0, ht0⟩ : ∃ o : ByteArray, o = ⟨(htmlAll (bl (classOf ⟨#[]⟩)) (played l)).toArray⟩ := ⟨_, rfl⟩
      have hdr1 : ∀ W, StepsAt W W.heap.size A9 n c9 lm → _ := fun W hW => listRender_of A9 n c9 lm st W hW hP.fine.cost (by have := hP.fine.len; omega) hP.fine.plain hP.fine.drawn hst hnm
      have hdr0 : ∀ W, StepsAt W W.heap.size A n c l → _ := fun W hW => listRender_of A n c l st W hW HFI.out.cost (by have := HFI.out.len; omega) HFI.out.plain HFI.out.drawn hst hnm
      have hmd1 : ∀ W, StepsAt W W.heap.size A9 n c9 lm → _ := fun W hW => listMd_of A9 n c9 lm st W hW hP.fine.cost (by have := hP.fine.len; omega) hP.fine.plain hP.fine.drawn hnm
      have hmd0 : ∀ W, StepsAt W W.heap.size A n c l → _ := fun W hW => listMd_of A n c l st W hW HFI.out.cost (by have := HFI.out.len; omega) HFI.out.plain HFI.out.drawn hnm
      have hht1 : ∀ W, StepsAt W W.heap.size A9 n c9 lm → _ := fun W hW => listHTML_any A9 n c9 lm ⟨#[]⟩ W hW hP.fine.cost (by have := hP.fine.len; omega) hP.fine.plain hP.fine.html (by decide)
      have hht0 : ∀ W, StepsAt W W.heap.size A n c l → _ := fun W hW => listHTML_any A n c l ⟨#[]⟩ W hW HFI.out.cost (by have := HFI.out.len; omega) HFI.out.plain HFI.out.html (by decide)
      rw [← ho1] at hdr1
      rw [← ho0] at hdr0
      rw [← hm1] at hmd1
      rw [← hm0] at hmd0
      rw [← ht1] at hht1
      rw [← ht0] at hht0
      unfold StyleV.arg at hdr1 hdr0 hmd1 hmd0
      have HD1 := Lib.hid hdr1
      have HD0 := Lib.hid hdr0
      have HM1 := Lib.hid hmd1
      have HM0 := Lib.hid hmd0
      have HT1 := Lib.hid hht1
      have HT0 := Lib.hid hht0
      have hs1 := hP.strip1
      have hs2 := hP.strip2
      have hs3 := hP.strip3
      have hz1 := hP.size1
      have hz2 := hP.size2
      have hz3 := hP.size3
      have hoth := hP.other
      rw [← ho1, ← ho0] at hs1 hoth
      rw [← hm1, ← hm0] at hs2
      rw [← ht1, ← ht0] at hs3
      rw [← ho1] at hz1
      rw [← hm1] at hz2
      rw [← ht1] at hz3
      have HS1 := Lib.hid hs1
      have HS2 := Lib.hid hs2
      have HS3 := Lib.hid hs3
      have HZ1 := Lib.hid hz1
      have HZ2 := Lib.hid hz2
      have HZ3 := Lib.hid hz3
      clear hs1 hs2 hs3 hz1 hz2 hz3 hdr1 hdr0 hmd1 hmd0 hht1 hht0 hP ho1 ho0 hm1 hm0 ht1 ht0 hlm hblk9 hat9 hl9 h2 HP
      have hd9 := (Below.refl w9.heap.size w9).drew
      have HOTH := Lib.hid hoth
      clear hoth
      go_wp2_with fail

      refine wp_region_held_drew (S := (fun w' => w'.cell? ⟨w.heap.size, 0, none⟩ = some (.int .i64 st.fmt) ∧ w'.cell? ⟨w.heap.size, 1, none⟩ = some (.string st.single) ∧ w'.cell? ⟨w.heap.size, 2, none⟩ = some (.string st.top) ∧ w'.cell? ⟨w.heap.size, 3, none⟩ = some (.string st.first) ∧ w'.cell? ⟨w.heap.size, 4, none⟩ = some (.string st.middle) ∧ w'.cell? ⟨w.heap.size, 5, none⟩ = some (.string st.vert) ∧ w'.cell? ⟨w.heap.size, 6, none⟩ = some (.string st.bottom) ∧ w'.cell? ⟨w.heap.size, 7, none⟩ = some (.string st.newline) ∧ w'.cell? ⟨w.heap.size, 8, none⟩ = some (.string st.pfx) ∧ Below w9.heap.size w9 w')) (by kernel_rfl) (HBOX9.out _ hd9) (fun hHeld => ?_)
      refine wpAnyH_take (i := 0) (oi := { dst := some 48, op := Op.move (Operand.tmp 9), type := 22, pos := "laws_lists_wt04c.go:241", after := #[], guard := none }) (v := ?va1) rfl (by kernel_rfl) (by kernel_rfl) (by kernel_rfl) (fun _ _ _ h => h) (Or.inl ⟨by rfl, ?hy1⟩) (by assumption) ?re1
      case hy1 => (intro w hSw; (try dsimp only at hSw); go_simp; try with_reducible rfl)
      try simp only [Act.put, List.setIfInBounds_toArray, List.set_cons_zero, List.set_cons_succ]
      refine wpAnyH_take (i := 1) (oi := { dst := some 49, op := Op.load 24 (Operand.tmp 4), type := 24, pos := "laws_lists_wt04c.go:241", after := #[], guard := none }) (v := ?va2) rfl (by kernel_rfl) (by kernel_rfl) (by kernel_rfl) (fun _ _ _ h => h) (Or.inl ⟨by rfl, ?hy2⟩) (by assumption) ?re2
      case hy2 => (intro w hSw; (try dsimp only at hSw); go_simp; try with_reducible rfl)
      try simp only [Act.put, List.setIfInBounds_toArray, List.set_cons_zero, List.set_cons_succ]
      refine wpAnyH_take (i := 3) (oi := { dst := some 51, op := Op.move (Operand.tmp 0), type := 22, pos := "laws_lists_wt04c.go:241", after := #[], guard := none }) (v := ?va3) rfl (by kernel_rfl) (by kernel_rfl) (by kernel_rfl) (fun _ _ _ h => h) (Or.inl ⟨by rfl, ?hy3⟩) (by assumption) ?re3
      case hy3 => (intro w hSw; (try dsimp only at hSw); go_simp; try with_reducible rfl)
      try simp only [Act.put, List.setIfInBounds_toArray, List.set_cons_zero, List.set_cons_succ]
      refine wpAnyH_take (i := 4) (oi := { dst := some 52, op := Op.load 24 (Operand.tmp 4), type := 24, pos := "laws_lists_wt04c.go:241", after := #[], guard := none }) (v := ?va4) rfl (by kernel_rfl) (by kernel_rfl) (by kernel_rfl) (fun _ _ _ h => h) (Or.inl ⟨by rfl, ?hy4⟩) (by assumption) ?re4
      case hy4 => (intro w hSw; (try dsimp only at hSw); go_simp; try with_reducible rfl)
      try simp only [Act.put, List.setIfInBounds_toArray, List.set_cons_zero, List.set_cons_succ]
      refine wpAnyH_ready (rs := [2]) (by kernel_rfl) (by simp) ?_
      refine AllReadyH.cons (o := { dst := some 50, op := Op.call { callee := Callee.value (Operand.func 18), args := #[Operand.tmp 48, Operand.tmp 49], argTypes := #[22, 24] }, type := 9, pos := "laws_lists_wt04c.go:241", after := #[{ on := 0, ground := Ground.data }, { on := 1, ground := Ground.data }], guard := none }) rfl (fun K hK => ?_) AllReadyH.nil
      go_simp
      refine (HD1.out _ (H9.out _ hd9)).mono ?_
      rintro e w10 ⟨rfl, hbw10⟩
      have hbA := hd9.trans (hbw10.mono hd9.size)
      refine hK.out _ _ (HBOX9.out _ hbA) (fun hHeld => ?_)
      clear hK K
      try simp only [Act.put, List.setIfInBounds_toArray, List.set_cons_zero, List.set_cons_succ]
      refine wpAnyH_ready (rs := [5]) (by kernel_rfl) (by simp) ?_
      refine AllReadyH.cons (o := { dst := some 53, op := Op.call { callee := Callee.value (Operand.func 18), args := #[Operand.tmp 51, Operand.tmp 52], argTypes := #[22, 24] }, type := 9, pos := "laws_lists_wt04c.go:241", after := #[{ on := 3, ground := Ground.data }, { on := 4, ground := Ground.data }, { on := 2, ground := Ground.chain }], guard := none }) rfl (fun K hK => ?_) AllReadyH.nil
      go_simp
      refine (HD0.out _ (HL9.out _ hbA)).mono ?_
      rintro e w11 ⟨rfl, hbw11⟩
      have hbB := hbA.trans (hbw11.mono hbA.size)
      refine hK.out _ _ (HBOX9.out _ hbB) (fun hHeld => ?_)
      clear hK K
      try simp only [Act.put, List.setIfInBounds_toArray, List.set_cons_zero, List.set_cons_succ]
      refine wpAnyH_take (i := 6) (oi := { dst := some 10, op := Op.assign (Operand.tmp 50), type := 9, pos := "laws_lists_wt04c.go:241", after := #[{ on := 2, ground := Ground.data }, { on := 5, ground := Ground.chain }, { on := 0, ground := Ground.phase }, { on := 1, ground := Ground.phase }, { on := 2, ground := Ground.phase }, { on := 3, ground := Ground.textOnly Departure.lateStores }, { on := 4, ground := Ground.textOnly Departure.lateStores }, { on := 5, ground := Ground.textOnly Departure.lateStoresUnsure }], guard := none }) (v := ?va5) rfl (by kernel_rfl) (by kernel_rfl) (by kernel_rfl) (fun _ _ _ h => h) (Or.inl ⟨by rfl, ?hy5⟩) (by assumption) ?re5
      case hy5 => (intro w hSw; (try dsimp only at hSw); go_simp; try with_reducible rfl)
      try simp only [Act.put, List.setIfInBounds_toArray, List.set_cons_zero, List.set_cons_succ]
      refine wpAnyH_take (i := 7) (oi := { dst := some 11, op := Op.assign (Operand.tmp 53), type := 9, pos := "laws_lists_wt04c.go:241", after := #[{ on := 5, ground := Ground.data }, { on := 6, ground := Ground.chain }, { on := 0, ground := Ground.phase }, { on := 1, ground := Ground.phase }, { on := 2, ground := Ground.phase }, { on := 3, ground := Ground.phase }, { on := 4, ground := Ground.phase }, { on := 5, ground := Ground.phase }, { on := 6, ground := Ground.phase }], guard := none }) (v := ?va6) rfl (by kernel_rfl) (by kernel_rfl) (by kernel_rfl) (fun _ _ _ h => h) (Or.inl ⟨by rfl, ?hy6⟩) (by assumption) ?re6
      case hy6 => (intro w hSw; (try dsimp only at hSw); go_simp; try with_reducible rfl)
      try simp only [Act.put, List.setIfInBounds_toArray, List.set_cons_zero, List.set_cons_succ]
      refine wpAnyH_done (by kernel_rfl) ?_ _
      have hdB := hbB.drew
      go_wp2_with fail
      by_cases hne : o1 = o0
      · obtain ⟨rfl, he0⟩ := HOTH.out.resolve_left (fun e => e hne)
        subst he0
        clear hne
        refine wp_region_held_drew (S := (fun w' => w'.cell? ⟨w.heap.size, 0, none⟩ = some (.int .i64 st.fmt) ∧ w'.cell? ⟨w.heap.size, 1, none⟩ = some (.string st.single) ∧ w'.cell? ⟨w.heap.size, 2, none⟩ = some (.string st.top) ∧ w'.cell? ⟨w.heap.size, 3, none⟩ = some (.string st.first) ∧ w'.cell? ⟨w.heap.size, 4, none⟩ = some (.string st.middle) ∧ w'.cell? ⟨w.heap.size, 5, none⟩ = some (.string st.vert) ∧ w'.cell? ⟨w.heap.size, 6, none⟩ = some (.string st.bottom) ∧ w'.cell? ⟨w.heap.size, 7, none⟩ = some (.string st.newline) ∧ w'.cell? ⟨w.heap.size, 8, none⟩ = some (.string st.pfx) ∧ Below w9.heap.size w9 w')) (by kernel_rfl) (HBOX9.out _ hdB) (fun hHeld => ?_)
        refine wpAnyH_take (i := 0) (oi := { dst := some 54, op := Op.move (Operand.tmp 10), type := 9, pos := "laws_lists_wt04c.go:242", after := #[], guard := none }) (v := ?va7) rfl (by kernel_rfl) (by kernel_rfl) (by kernel_rfl) (fun _ _ _ h => h) (Or.inl ⟨by rfl, ?hy7⟩) (by assumption) ?re7
        case hy7 => (intro w hSw; (try dsimp only at hSw); go_simp; try with_reducible rfl)
        try simp only [Act.put, List.setIfInBounds_toArray, List.set_cons_zero, List.set_cons_succ]
        refine wpAnyH_take (i := 2) (oi := { dst := some 56, op := Op.move (Operand.tmp 11), type := 9, pos := "laws_lists_wt04c.go:242", after := #[], guard := none }) (v := ?va8) rfl (by kernel_rfl) (by kernel_rfl) (by kernel_rfl) (fun _ _ _ h => h) (Or.inl ⟨by rfl, ?hy8⟩) (by assumption) ?re8
        case hy8 => (intro w hSw; (try dsimp only at hSw); go_simp; try with_reducible rfl)
        try simp only [Act.put, List.setIfInBounds_toArray, List.set_cons_zero, List.set_cons_succ]
        refine wpAnyH_ready (rs := [1]) (by kernel_rfl) (by simp) ?_
        refine AllReadyH.cons (o := { dst := some 55, op := Op.call { callee := Callee.value (Operand.func 19), args := #[Operand.tmp 54], argTypes := #[9] }, type := 9, pos := "laws_lists_wt04c.go:242", after := #[{ on := 0, ground := Ground.data }], guard := none }) rfl (fun K hK => ?_) AllReadyH.nil
        go_simp
        refine (tStrip_any ⟨#[]⟩ _ HZ1.out).mono ?_
        rintro e w12 ⟨rfl, hbw12⟩
        rw [HS1.out]
        have hbC := hdB.trans (hbw12.mono hdB.size)
        refine hK.out _ _ (HBOX9.out _ hbC) (fun hHeld => ?_)
        clear hK K
        try simp only [Act.put, List.setIfInBounds_toArray, List.set_cons_zero, List.set_cons_succ]
        refine wpAnyH_take (i := 3) (oi := { dst := some 57, op := Op.binOp BinOp.eql 9 (Operand.tmp 55) (Operand.tmp 56) 9, type := 4, pos := "laws_lists_wt04c.go:242", after := #[{ on := 1, ground := Ground.data }, { on := 2, ground := Ground.data }], guard := none }) (v := ?va9) rfl (by kernel_rfl) (by kernel_rfl) (by kernel_rfl) (fun _ _ _ h => h) (Or.inl ⟨by rfl, ?hy9⟩) (by assumption) ?re9
        case hy9 => (intro w hSw; (try dsimp only at hSw); go_simp; try with_reducible rfl)
        try simp only [Act.put, List.setIfInBounds_toArray, List.set_cons_zero, List.set_cons_succ]
        refine wpAnyH_take (i := 4) (oi := { dst := some 58, op := Op.move (Operand.tmp 57), type := 4, pos := "laws_lists_wt04c.go:242", after := #[{ on := 3, ground := Ground.data }, { on := 1, ground := Ground.chain }], guard := none }) (v := ?va10) rfl (by kernel_rfl) (by kernel_rfl) (by kernel_rfl) (fun _ _ _ h => h) (Or.inl ⟨by rfl, ?hy10⟩) (by assumption) ?re10
        case hy10 => (intro w hSw; (try dsimp only at hSw); go_simp; try with_reducible rfl)
        try simp only [Act.put, List.setIfInBounds_toArray, List.set_cons_zero, List.set_cons_succ]
        refine wpAnyH_take (i := 5) (oi := { dst := some 59, op := Op.move (Operand.tmp 10), type := 9, pos := "laws_lists_wt04c.go:242", after := #[{ on := 4, ground := Ground.guard }], guard := some (4, true) }) (v := ?va11) rfl (by kernel_rfl) (by kernel_rfl) (by kernel_rfl) (fun _ _ _ h => h) (Or.inl ⟨by rfl, ?hy11⟩) (by assumption) ?re11
        case hy11 => (intro w hSw; (try dsimp only at hSw); go_simp; try with_reducible rfl)
        try simp only [Act.put, List.setIfInBounds_toArray, List.set_cons_zero, List.set_cons_succ]
        refine wpAnyH_take (i := 6) (oi := { dst := some 60, op := Op.move (Operand.tmp 11), type := 9, pos := "laws_lists_wt04c.go:242", after := #[{ on := 4, ground := Ground.guard }], guard := some (4, true) }) (v := ?va12) rfl (by kernel_rfl) (by kernel_rfl) (by kernel_rfl) (fun _ _ _ h => h) (Or.inl ⟨by rfl, ?hy12⟩) (by assumption) ?re12
        case hy12 => (intro w hSw; (try dsimp only at hSw); go_simp; try with_reducible rfl)
        try simp only [Act.put, List.setIfInBounds_toArray, List.set_cons_zero, List.set_cons_succ]
        refine wpAnyH_take (i := 7) (oi := { dst := some 61, op := Op.binOp BinOp.neq 9 (Operand.tmp 59) (Operand.tmp 60) 9, type := 4, pos := "laws_lists_wt04c.go:242", after := #[{ on := 5, ground := Ground.data }, { on := 6, ground := Ground.data }, { on := 4, ground := Ground.guard }], guard := some (4, true) }) (v := ?va13) rfl (by kernel_rfl) (by kernel_rfl) (by kernel_rfl) (fun _ _ _ h => h) (Or.inl ⟨by rfl, ?hy13⟩) (by assumption) ?re13
        case hy13 => (intro w hSw; (try dsimp only at hSw); go_simp; try with_reducible rfl)
        try simp only [Act.put, List.setIfInBounds_toArray, List.set_cons_zero, List.set_cons_succ]
        refine wpAnyH_take (i := 8) (oi := { dst := some 62, op := Op.move (Operand.tmp 61), type := 4, pos := "laws_lists_wt04c.go:242", after := #[{ on := 7, ground := Ground.data }, { on := 4, ground := Ground.chain }, { on := 4, ground := Ground.guard }], guard := some (4, true) }) (v := ?va14) rfl (by kernel_rfl) (by kernel_rfl) (by kernel_rfl) (fun _ _ _ h => h) (Or.inl ⟨by rfl, ?hy14⟩) (by assumption) ?re14
        case hy14 => (intro w hSw; (try dsimp only at hSw); go_simp; try with_reducible rfl)
        try simp only [Act.put, List.setIfInBounds_toArray, List.set_cons_zero, List.set_cons_succ]
        refine wpAnyH_take (i := 9) (oi := { dst := some 63, op := Op.move (Operand.tmp 11), type := 9, pos := "laws_lists_wt04c.go:242", after := #[{ on := 8, ground := Ground.guard }], guard := some (8, false) }) (v := ?va15) rfl (by kernel_rfl) (by kernel_rfl) (by kernel_rfl) (fun _ _ _ h => h) (Or.inl ⟨by rfl, ?hy15⟩) (by assumption) ?re15
        case hy15 => (intro w hSw; (try dsimp only at hSw); go_simp; try with_reducible rfl)
        try simp only [Act.put, List.setIfInBounds_toArray, List.set_cons_zero, List.set_cons_succ]
        refine wpAnyH_take (i := 10) (oi := { dst := some 64, op := Op.binOp BinOp.eql 9 (Operand.tmp 63) (Operand.const (Value.string { data := #[] })) 9, type := 4, pos := "laws_lists_wt04c.go:242", after := #[{ on := 9, ground := Ground.data }, { on := 8, ground := Ground.guard }], guard := some (8, false) }) (v := ?va16) rfl (by kernel_rfl) (by kernel_rfl) (by kernel_rfl) (fun _ _ _ h => h) (Or.inl ⟨by rfl, ?hy16⟩) (by assumption) ?re16
        case hy16 => (intro w hSw; (try dsimp only at hSw); go_simp; try with_reducible rfl)
        try simp only [Act.put, List.setIfInBounds_toArray, List.set_cons_zero, List.set_cons_succ]
        refine wpAnyH_take (i := 11) (oi := { dst := some 65, op := Op.pick (Operand.tmp 62) (Operand.const (Value.bool true)) (Operand.tmp 64), type := 4, pos := "laws_lists_wt04c.go:242", after := #[{ on := 8, ground := Ground.data }, { on := 10, ground := Ground.data }, { on := 4, ground := Ground.guard }], guard := some (4, true) }) (v := ?va17) rfl (by kernel_rfl) (by kernel_rfl) (by kernel_rfl) (fun _ _ _ h => h) (Or.inl ⟨by rfl, ?hy17⟩) (by assumption) ?re17
        case hy17 => (intro w hSw; (try dsimp only at hSw); go_simp; try with_reducible rfl)
        try simp only [Act.put, List.setIfInBounds_toArray, List.set_cons_zero, List.set_cons_succ]
        refine wpAnyH_take (i := 12) (oi := { dst := some 66, op := Op.pick (Operand.tmp 58) (Operand.tmp 65) (Operand.const (Value.bool false)), type := 4, pos := "laws_lists_wt04c.go:242", after := #[{ on := 4, ground := Ground.data }, { on := 11, ground := Ground.data }], guard := none }) (v := ?va18) rfl (by kernel_rfl) (by kernel_rfl) (by kernel_rfl) (fun _ _ _ h => h) (Or.inl ⟨by rfl, ?hy18⟩) (by assumption) ?re18
        case hy18 => (intro w hSw; (try dsimp only at hSw); go_simp; try with_reducible rfl)
        try simp only [Act.put, List.setIfInBounds_toArray, List.set_cons_zero, List.set_cons_succ]
        refine wpAnyH_take (i := 13) (oi := { dst := some 67, op := Op.move (Operand.tmp 66), type := 4, pos := "laws_lists_wt04c.go:242", after := #[{ on := 12, ground := Ground.data }, { on := 8, ground := Ground.chain }], guard := none }) (v := ?va19) rfl (by kernel_rfl) (by kernel_rfl) (by kernel_rfl) (fun _ _ _ h => h) (Or.inl ⟨by rfl, ?hy19⟩) (by assumption) ?re19
        case hy19 => (intro w hSw; (try dsimp only at hSw); go_simp; try with_reducible rfl)
        try simp only [Act.put, List.setIfInBounds_toArray, List.set_cons_zero, List.set_cons_succ]
        refine wpAnyH_take (i := 14) (oi := { dst := some 68, op := Op.move (Operand.tmp 9), type := 22, pos := "laws_lists_wt04c.go:242", after := #[{ on := 13, ground := Ground.guard }], guard := some (13, true) }) (v := ?va20) rfl (by kernel_rfl) (by kernel_rfl) (by kernel_rfl) (fun _ _ _ h => h) (Or.inl ⟨by rfl, ?hy20⟩) (by assumption) ?re20
        case hy20 => (intro w hSw; (try dsimp only at hSw); go_simp; try with_reducible rfl)
        try simp only [Act.put, List.setIfInBounds_toArray, List.set_cons_zero, List.set_cons_succ]
        refine wpAnyH_take (i := 15) (oi := { dst := some 69, op := Op.load 24 (Operand.tmp 4), type := 24, pos := "laws_lists_wt04c.go:242", after := #[{ on := 13, ground := Ground.guard }], guard := some (13, true) }) (v := ?va21) rfl (by kernel_rfl) (by kernel_rfl) (by kernel_rfl) (fun _ _ _ h => h) (Or.inl ⟨by rfl, ?hy21⟩) (by assumption) ?re21
        case hy21 => (intro w hSw; (try dsimp only at hSw); go_simp; try with_reducible rfl)
        try simp only [Act.put, List.setIfInBounds_toArray, List.set_cons_zero, List.set_cons_succ]
        refine wpAnyH_take (i := 18) (oi := { dst := some 72, op := Op.move (Operand.tmp 0), type := 22, pos := "laws_lists_wt04c.go:242", after := #[{ on := 13, ground := Ground.guard }], guard := some (13, true) }) (v := ?va22) rfl (by kernel_rfl) (by kernel_rfl) (by kernel_rfl) (fun _ _ _ h => h) (Or.inl ⟨by rfl, ?hy22⟩) (by assumption) ?re22
        case hy22 => (intro w hSw; (try dsimp only at hSw); go_simp; try with_reducible rfl)
        try simp only [Act.put, List.setIfInBounds_toArray, List.set_cons_zero, List.set_cons_succ]
        refine wpAnyH_take (i := 19) (oi := { dst := some 73, op := Op.load 24 (Operand.tmp 4), type := 24, pos := "laws_lists_wt04c.go:242", after := #[{ on := 13, ground := Ground.guard }], guard := some (13, true) }) (v := ?va23) rfl (by kernel_rfl) (by kernel_rfl) (by kernel_rfl) (fun _ _ _ h => h) (Or.inl ⟨by rfl, ?hy23⟩) (by assumption) ?re23
        case hy23 => (intro w hSw; (try dsimp only at hSw); go_simp; try with_reducible rfl)
        try simp only [Act.put, List.setIfInBounds_toArray, List.set_cons_zero, List.set_cons_succ]
        refine wpAnyH_ready (rs := [16]) (by kernel_rfl) (by simp) ?_
        refine AllReadyH.cons (o := { dst := some 70, op := Op.call { callee := Callee.value (Operand.func 20), args := #[Operand.tmp 68, Operand.tmp 69], argTypes := #[22, 24] }, type := 9, pos := "laws_lists_wt04c.go:242", after := #[{ on := 14, ground := Ground.data }, { on := 15, ground := Ground.data }, { on := 13, ground := Ground.chain }, { on := 13, ground := Ground.guard }], guard := some (13, true) }) rfl (fun K hK => ?_) AllReadyH.nil
        go_simp
        refine (HM1.out _ (H9.out _ hbC)).mono ?_
        rintro e w13 ⟨rfl, hbw13⟩
        have hbD := hbC.trans (hbw13.mono hbC.size)
        refine hK.out _ _ (HBOX9.out _ hbD) (fun hHeld => ?_)
        clear hK K
        try simp only [Act.put, List.setIfInBounds_toArray, List.set_cons_zero, List.set_cons_succ]
        refine wpAnyH_ready (rs := [17]) (by kernel_rfl) (by simp) ?_
        refine AllReadyH.cons (o := { dst := some 71, op := Op.call { callee := Callee.value (Operand.func 19), args := #[Operand.tmp 70], argTypes := #[9] }, type := 9, pos := "laws_lists_wt04c.go:242", after := #[{ on := 16, ground := Ground.data }, { on := 16, ground := Ground.chain }, { on := 13, ground := Ground.guard }], guard := some (13, true) }) rfl (fun K hK => ?_) AllReadyH.nil
        go_simp
        refine (tStrip_any m1 _ HZ2.out).mono ?_
        rintro e w14 ⟨rfl, hbw14⟩
        rw [HS2.out]
        have hbE := hbD.trans (hbw14.mono hbD.size)
        refine hK.out _ _ (HBOX9.out _ hbE) (fun hHeld => ?_)
        clear hK K
        try simp only [Act.put, List.setIfInBounds_toArray, List.set_cons_zero, List.set_cons_succ]
        refine wpAnyH_ready (rs := [20]) (by kernel_rfl) (by simp) ?_
        refine AllReadyH.cons (o := { dst := some 74, op := Op.call { callee := Callee.value (Operand.func 20), args := #[Operand.tmp 72, Operand.tmp 73], argTypes := #[22, 24] }, type := 9, pos := "laws_lists_wt04c.go:242", after := #[{ on := 18, ground := Ground.data }, { on := 19, ground := Ground.data }, { on := 17, ground := Ground.chain }, { on := 13, ground := Ground.guard }], guard := some (13, true) }) rfl (fun K hK => ?_) AllReadyH.nil
        go_simp
        refine (HM0.out _ (HL9.out _ hbE)).mono ?_
        rintro e w15 ⟨rfl, hbw15⟩
        have hbF := hbE.trans (hbw15.mono hbE.size)
        refine hK.out _ _ (HBOX9.out _ hbF) (fun hHeld => ?_)
        clear hK K
        try simp only [Act.put, List.setIfInBounds_toArray, List.set_cons_zero, List.set_cons_succ]
        refine wpAnyH_take (i := 21) (oi := { dst := some 75, op := Op.binOp BinOp.eql 9 (Operand.tmp 71) (Operand.tmp 74) 9, type := 4, pos := "laws_lists_wt04c.go:242", after := #[{ on := 17, ground := Ground.data }, { on := 20, ground := Ground.data }, { on := 13, ground := Ground.guard }], guard := some (13, true) }) (v := ?va24) rfl (by kernel_rfl) (by kernel_rfl) (by kernel_rfl) (fun _ _ _ h => h) (Or.inl ⟨by rfl, ?hy24⟩) (by assumption) ?re24
        case hy24 => (intro w hSw; (try dsimp only at hSw); go_simp; try with_reducible rfl)
        try simp only [Act.put, List.setIfInBounds_toArray, List.set_cons_zero, List.set_cons_succ]
        refine wpAnyH_take (i := 22) (oi := { dst := some 76, op := Op.pick (Operand.tmp 67) (Operand.tmp 75) (Operand.const (Value.bool false)), type := 4, pos := "laws_lists_wt04c.go:242", after := #[{ on := 13, ground := Ground.data }, { on := 21, ground := Ground.data }], guard := none }) (v := ?va25) rfl (by kernel_rfl) (by kernel_rfl) (by kernel_rfl) (fun _ _ _ h => h) (Or.inl ⟨by rfl, ?hy25⟩) (by assumption) ?re25
        case hy25 => (intro w hSw; (try dsimp only at hSw); go_simp; try with_reducible rfl)
        try simp only [Act.put, List.setIfInBounds_toArray, List.set_cons_zero, List.set_cons_succ]
        refine wpAnyH_take (i := 23) (oi := { dst := some 77, op := Op.move (Operand.tmp 76), type := 4, pos := "laws_lists_wt04c.go:242", after := #[{ on := 22, ground := Ground.data }, { on := 20, ground := Ground.chain }], guard := none }) (v := ?va26) rfl (by kernel_rfl) (by kernel_rfl) (by kernel_rfl) (fun _ _ _ h => h) (Or.inl ⟨by rfl, ?hy26⟩) (by assumption) ?re26
        case hy26 => (intro w hSw; (try dsimp only at hSw); go_simp; try with_reducible rfl)
        try simp only [Act.put, List.setIfInBounds_toArray, List.set_cons_zero, List.set_cons_succ]
        refine wpAnyH_take (i := 24) (oi := { dst := some 78, op := Op.move (Operand.tmp 9), type := 22, pos := "laws_lists_wt04c.go:242", after := #[{ on := 23, ground := Ground.guard }], guard := some (23, true) }) (v := ?va27) rfl (by kernel_rfl) (by kernel_rfl) (by kernel_rfl) (fun _ _ _ h => h) (Or.inl ⟨by rfl, ?hy27⟩) (by assumption) ?re27
        case hy27 => (intro w hSw; (try dsimp only at hSw); go_simp; try with_reducible rfl)
        try simp only [Act.put, List.setIfInBounds_toArray, List.set_cons_zero, List.set_cons_succ]
        refine wpAnyH_take (i := 27) (oi := { dst := some 81, op := Op.move (Operand.tmp 0), type := 22, pos := "laws_lists_wt04c.go:242", after := #[{ on := 23, ground := Ground.guard }], guard := some (23, true) }) (v := ?va28) rfl (by kernel_rfl) (by kernel_rfl) (by kernel_rfl) (fun _ _ _ h => h) (Or.inl ⟨by rfl, ?hy28⟩) (by assumption) ?re28
        case hy28 => (intro w hSw; (try dsimp only at hSw); go_simp; try with_reducible rfl)
        try simp only [Act.put, List.setIfInBounds_toArray, List.set_cons_zero, List.set_cons_succ]
        refine wpAnyH_ready (rs := [25]) (by kernel_rfl) (by simp) ?_
        refine AllReadyH.cons (o := { dst := some 79, op := Op.call { callee := Callee.value (Operand.func 21), args := #[Operand.tmp 78, Operand.const (Value.string { data := #[] })], argTypes := #[22, 9] }, type := 9, pos := "laws_lists_wt04c.go:242", after := #[{ on := 24, ground := Ground.data }, { on := 23, ground := Ground.chain }, { on := 23, ground := Ground.guard }], guard := some (23, true) }) rfl (fun K hK => ?_) AllReadyH.nil
        go_simp
        refine (HT1.out _ (H9.out _ hbF)).mono ?_
        rintro e w16 ⟨rfl, hbw16⟩
        have hbG := hbF.trans (hbw16.mono hbF.size)
        refine hK.out _ _ (HBOX9.out _ hbG) (fun hHeld => ?_)
        clear hK K
        try simp only [Act.put, List.setIfInBounds_toArray, List.set_cons_zero, List.set_cons_succ]
        refine wpAnyH_ready (rs := [26]) (by kernel_rfl) (by simp) ?_
        refine AllReadyH.cons (o := { dst := some 80, op := Op.call { callee := Callee.value (Operand.func 19), args := #[Operand.tmp 79], argTypes := #[9] }, type := 9, pos := "laws_lists_wt04c.go:242", after := #[{ on := 25, ground := Ground.data }, { on := 25, ground := Ground.chain }, { on := 23, ground := Ground.guard }], guard := some (23, true) }) rfl (fun K hK => ?_) AllReadyH.nil
        go_simp
        refine (tStrip_any t1 _ HZ3.out).mono ?_
        rintro e w17 ⟨rfl, hbw17⟩
        rw [HS3.out]
        have hbH := hbG.trans (hbw17.mono hbG.size)
        refine hK.out _ _ (HBOX9.out _ hbH) (fun hHeld => ?_)
        clear hK K
        try simp only [Act.put, List.setIfInBounds_toArray, List.set_cons_zero, List.set_cons_succ]
        refine wpAnyH_ready (rs := [28]) (by kernel_rfl) (by simp) ?_
        refine AllReadyH.cons (o := { dst := some 82, op := Op.call { callee := Callee.value (Operand.func 21), args := #[Operand.tmp 81, Operand.const (Value.string { data := #[] })], argTypes := #[22, 9] }, type := 9, pos := "laws_lists_wt04c.go:242", after := #[{ on := 27, ground := Ground.data }, { on := 26, ground := Ground.chain }, { on := 23, ground := Ground.guard }], guard := some (23, true) }) rfl (fun K hK => ?_) AllReadyH.nil
        go_simp
        refine (HT0.out _ (HL9.out _ hbH)).mono ?_
        rintro e w18 ⟨rfl, hbw18⟩
        have hbI := hbH.trans (hbw18.mono hbH.size)
        refine hK.out _ _ (HBOX9.out _ hbI) (fun hHeld => ?_)
        clear hK K
        try simp only [Act.put, List.setIfInBounds_toArray, List.set_cons_zero, List.set_cons_succ]
        refine wpAnyH_take (i := 29) (oi := { dst := some 83, op := Op.binOp BinOp.eql 9 (Operand.tmp 80) (Operand.tmp 82) 9, type := 4, pos := "laws_lists_wt04c.go:242", after := #[{ on := 26, ground := Ground.data }, { on := 28, ground := Ground.data }, { on := 23, ground := Ground.guard }], guard := some (23, true) }) (v := ?va29) rfl (by kernel_rfl) (by kernel_rfl) (by kernel_rfl) (fun _ _ _ h => h) (Or.inl ⟨by rfl, ?hy29⟩) (by assumption) ?re29
        case hy29 => (intro w hSw; (try dsimp only at hSw); go_simp; try with_reducible rfl)
        try simp only [Act.put, List.setIfInBounds_toArray, List.set_cons_zero, List.set_cons_succ]
        refine wpAnyH_take (i := 30) (oi := { dst := some 84, op := Op.pick (Operand.tmp 77) (Operand.tmp 83) (Operand.const (Value.bool false)), type := 4, pos := "laws_lists_wt04c.go:242", after := #[{ on := 23, ground := Ground.data }, { on := 29, ground := Ground.data }], guard := none }) (v := ?va30) rfl (by kernel_rfl) (by kernel_rfl) (by kernel_rfl) (fun _ _ _ h => h) (Or.inl ⟨by rfl, ?hy30⟩) (by assumption) ?re30
        case hy30 => (intro w hSw; (try dsimp only at hSw); go_simp; try with_reducible rfl)
        try simp only [Act.put, List.setIfInBounds_toArray, List.set_cons_zero, List.set_cons_succ]
        refine wpAnyH_take (i := 31) (oi := { dst := some 85, op := Op.move (Operand.tmp 84), type := 4, pos := "laws_lists_wt04c.go:242", after := #[{ on := 30, ground := Ground.data }, { on := 28, ground := Ground.chain }], guard := none }) (v := ?va31) rfl (by kernel_rfl) (by kernel_rfl) (by kernel_rfl) (fun _ _ _ h => h) (Or.inl ⟨by rfl, ?hy31⟩) (by assumption) ?re31
        case hy31 => (intro w hSw; (try dsimp only at hSw); go_simp; try with_reducible rfl)
        try simp only [Act.put, List.setIfInBounds_toArray, List.set_cons_zero, List.set_cons_succ]
        refine wpAnyH_ready (rs := [32]) (by kernel_rfl) (by simp) ?_
        refine AllReadyH.cons (o := { dst := some 86, op := Op.call { callee := Callee.value (Operand.func 22), args := #[], argTypes := #[] }, type := 4, pos := "laws_lists_wt04c.go:242", after := #[{ on := 31, ground := Ground.chain }, { on := 31, ground := Ground.guard }], guard := some (31, true) }) rfl (fun K hK => ?_) AllReadyH.nil
        go_simp
        refine (alive_any _).mono ?_
        rintro e w19 ⟨rfl, hbw19⟩
        have hbJ := hbI.trans (hbw19.mono hbI.size)
        refine hK.out _ _ (HBOX9.out _ hbJ) (fun hHeld => ?_)
        clear hK K
        try simp only [Act.put, List.setIfInBounds_toArray, List.set_cons_zero, List.set_cons_succ]
        refine wpAnyH_take (i := 33) (oi := { dst := some 87, op := Op.pick (Operand.tmp 85) (Operand.tmp 86) (Operand.const (Value.bool false)), type := 4, pos := "laws_lists_wt04c.go:242", after := #[{ on := 31, ground := Ground.data }, { on := 32, ground := Ground.data }], guard := none }) (v := ?va32) rfl (by kernel_rfl) (by kernel_rfl) (by kernel_rfl) (fun _ _ _ h => h) (Or.inl ⟨by rfl, ?hy32⟩) (by assumption) ?re32
        case hy32 => (intro w hSw; (try dsimp only at hSw); go_simp; try with_reducible rfl)
        try simp only [Act.put, List.setIfInBounds_toArray, List.set_cons_zero, List.set_cons_succ]
        refine wpAnyH_take (i := 34) (oi := { dst := some 6, op := Op.assign (Operand.tmp 87), type := 4, pos := "laws_lists_wt04c.go:242", after := #[{ on := 33, ground := Ground.data }, { on := 32, ground := Ground.chain }, { on := 0, ground := Ground.phase }, { on := 1, ground := Ground.phase }, { on := 2, ground := Ground.phase }, { on := 3, ground := Ground.phase }, { on := 4, ground := Ground.phase }, { on := 5, ground := Ground.phase }, { on := 6, ground := Ground.phase }, { on := 7, ground := Ground.phase }, { on := 8, ground := Ground.phase }, { on := 9, ground := Ground.phase }, { on := 10, ground := Ground.phase }, { on := 11, ground := Ground.phase }, { on := 12, ground := Ground.phase }, { on := 13, ground := Ground.phase }, { on := 14, ground := Ground.phase }, { on := 15, ground := Ground.phase }, { on := 16, ground := Ground.phase }, { on := 17, ground := Ground.phase }, { on := 18, ground := Ground.phase }, { on := 19, ground := Ground.phase }, { on := 20, ground := Ground.phase }, { on := 21, ground := Ground.phase }, { on := 22, ground := Ground.phase }, { on := 23, ground := Ground.phase }, { on := 24, ground := Ground.phase }, { on := 25, ground := Ground.phase }, { on := 26, ground := Ground.phase }, { on := 27, ground := Ground.phase }, { on := 28, ground := Ground.phase }, { on := 29, ground := Ground.phase }, { on := 30, ground := Ground.phase }, { on := 31, ground := Ground.phase }, { on := 32, ground := Ground.phase }, { on := 33, ground := Ground.phase }], guard := none }) (v := ?va33) rfl (by kernel_rfl) (by kernel_rfl) (by kernel_rfl) (fun _ _ _ h => h) (Or.inl ⟨by rfl, ?hy33⟩) (by assumption) ?re33
        case hy33 => (intro w hSw; (try dsimp only at hSw); go_simp; try with_reducible rfl)
        try simp only [Act.put, List.setIfInBounds_toArray, List.set_cons_zero, List.set_cons_succ]
        refine wpAnyH_done (by kernel_rfl) ?_ _
        go_wp2_with fail
        go_ret
        exact ⟨rfl, HF.out _ hbJ⟩
      · have hq1 : (o1.toList == o0.toList) = false := by rw [beq_eq_false_iff_ne]; exact toList_ne hne
        have hq2 : (o1.toList != o0.toList) = true := by rw [bne_iff_ne]; exact toList_ne hne
        clear hne
        refine wp_region_held_drew (S := (fun w' => w'.cell? ⟨w.heap.size, 0, none⟩ = some (.int .i64 st.fmt) ∧ w'.cell? ⟨w.heap.size, 1, none⟩ = some (.string st.single) ∧ w'.cell? ⟨w.heap.size, 2, none⟩ = some (.string st.top) ∧ w'.cell? ⟨w.heap.size, 3, none⟩ = some (.string st.first) ∧ w'.cell? ⟨w.heap.size, 4, none⟩ = some (.string st.middle) ∧ w'.cell? ⟨w.heap.size, 5, none⟩ = some (.string st.vert) ∧ w'.cell? ⟨w.heap.size, 6, none⟩ = some (.string st.bottom) ∧ w'.cell? ⟨w.heap.size, 7, none⟩ = some (.string st.newline) ∧ w'.cell? ⟨w.heap.size, 8, none⟩ = some (.string st.pfx) ∧ Below w9.heap.size w9 w')) (by kernel_rfl) (HBOX9.out _ hdB) (fun hHeld => ?_)
        refine wpAnyH_take (i := 0) (oi := { dst := some 54, op := Op.move (Operand.tmp 10), type := 9, pos := "laws_lists_wt04c.go:242", after := #[], guard := none }) (v := ?va34) rfl (by kernel_rfl) (by kernel_rfl) (by kernel_rfl) (fun _ _ _ h => h) (Or.inl ⟨by rfl, ?hy34⟩) (by assumption) ?re34
        case hy34 => (intro w hSw; (try dsimp only at hSw); go_simp; try with_reducible rfl)
        try simp only [Act.put, List.setIfInBounds_toArray, List.set_cons_zero, List.set_cons_succ]
        refine wpAnyH_take (i := 2) (oi := { dst := some 56, op := Op.move (Operand.tmp 11), type := 9, pos := "laws_lists_wt04c.go:242", after := #[], guard := none }) (v := ?va35) rfl (by kernel_rfl) (by kernel_rfl) (by kernel_rfl) (fun _ _ _ h => h) (Or.inl ⟨by rfl, ?hy35⟩) (by assumption) ?re35
        case hy35 => (intro w hSw; (try dsimp only at hSw); go_simp; try with_reducible rfl)
        try simp only [Act.put, List.setIfInBounds_toArray, List.set_cons_zero, List.set_cons_succ]
        refine wpAnyH_ready (rs := [1]) (by kernel_rfl) (by simp) ?_
        refine AllReadyH.cons (o := { dst := some 55, op := Op.call { callee := Callee.value (Operand.func 19), args := #[Operand.tmp 54], argTypes := #[9] }, type := 9, pos := "laws_lists_wt04c.go:242", after := #[{ on := 0, ground := Ground.data }], guard := none }) rfl (fun K hK => ?_) AllReadyH.nil
        go_simp
        refine (tStrip_any o1 _ HZ1.out).mono ?_
        rintro e w12 ⟨rfl, hbw12⟩
        rw [HS1.out]
        have hbC := hdB.trans (hbw12.mono hdB.size)
        refine hK.out _ _ (HBOX9.out _ hbC) (fun hHeld => ?_)
        clear hK K
        try simp only [Act.put, List.setIfInBounds_toArray, List.set_cons_zero, List.set_cons_succ]
        refine wpAnyH_take (i := 3) (oi := { dst := some 57, op := Op.binOp BinOp.eql 9 (Operand.tmp 55) (Operand.tmp 56) 9, type := 4, pos := "laws_lists_wt04c.go:242", after := #[{ on := 1, ground := Ground.data }, { on := 2, ground := Ground.data }], guard := none }) (v := ?va36) rfl (by kernel_rfl) (by kernel_rfl) (by kernel_rfl) (fun _ _ _ h => h) (Or.inl ⟨by rfl, ?hy36⟩) (by assumption) ?re36
        case hy36 => (intro w hSw; (try dsimp only at hSw); go_simp; try with_reducible rfl)
        try simp only [Act.put, List.setIfInBounds_toArray, List.set_cons_zero, List.set_cons_succ]
        refine wpAnyH_take (i := 4) (oi := { dst := some 58, op := Op.move (Operand.tmp 57), type := 4, pos := "laws_lists_wt04c.go:242", after := #[{ on := 3, ground := Ground.data }, { on := 1, ground := Ground.chain }], guard := none }) (v := ?va37) rfl (by kernel_rfl) (by kernel_rfl) (by kernel_rfl) (fun _ _ _ h => h) (Or.inl ⟨by rfl, ?hy37⟩) (by assumption) ?re37
        case hy37 => (intro w hSw; (try dsimp only at hSw); go_simp; try with_reducible rfl)
        try simp only [Act.put, List.setIfInBounds_toArray, List.set_cons_zero, List.set_cons_succ]
        refine wpAnyH_take (i := 5) (oi := { dst := some 59, op := Op.move (Operand.tmp 10), type := 9, pos := "laws_lists_wt04c.go:242", after := #[{ on := 4, ground := Ground.guard }], guard := some (4, true) }) (v := ?va38) rfl (by kernel_rfl) (by kernel_rfl) (by kernel_rfl) (fun _ _ _ h => h) (Or.inl ⟨by rfl, ?hy38⟩) (by assumption) ?re38
        case hy38 => (intro w hSw; (try dsimp only at hSw); go_simp; try with_reducible rfl)
        try simp only [Act.put, List.setIfInBounds_toArray, List.set_cons_zero, List.set_cons_succ]
        refine wpAnyH_take (i := 6) (oi := { dst := some 60, op := Op.move (Operand.tmp 11), type := 9, pos := "laws_lists_wt04c.go:242", after := #[{ on := 4, ground := Ground.guard }], guard := some (4, true) }) (v := ?va39) rfl (by kernel_rfl) (by kernel_rfl) (by kernel_rfl) (fun _ _ _ h => h) (Or.inl ⟨by rfl, ?hy39⟩) (by assumption) ?re39
        case hy39 => (intro w hSw; (try dsimp only at hSw); go_simp; try with_reducible rfl)
        try simp only [Act.put, List.setIfInBounds_toArray, List.set_cons_zero, List.set_cons_succ]
        refine wpAnyH_take (i := 7) (oi := { dst := some 61, op := Op.binOp BinOp.neq 9 (Operand.tmp 59) (Operand.tmp 60) 9, type := 4, pos := "laws_lists_wt04c.go:242", after := #[{ on := 5, ground := Ground.data }, { on := 6, ground := Ground.data }, { on := 4, ground := Ground.guard }], guard := some (4, true) }) (v := ?va40) rfl (by kernel_rfl) (by kernel_rfl) (by kernel_rfl) (fun _ _ _ h => h) (Or.inl ⟨by rfl, ?hy40⟩) (by assumption) ?re40
        case hy40 => (intro w hSw; (try dsimp only at hSw); go_simp; try with_reducible rfl)
        try simp only [Act.put, List.setIfInBounds_toArray, List.set_cons_zero, List.set_cons_succ]
        refine wpAnyH_take (i := 8) (oi := { dst := some 62, op := Op.move (Operand.tmp 61), type := 4, pos := "laws_lists_wt04c.go:242", after := #[{ on := 7, ground := Ground.data }, { on := 4, ground := Ground.chain }, { on := 4, ground := Ground.guard }], guard := some (4, true) }) (v := ?va41) rfl (by kernel_rfl) (by kernel_rfl) (by kernel_rfl) (fun _ _ _ h => h) (Or.inl ⟨by rfl, ?hy41⟩) (by assumption) ?re41
        case hy41 => (intro w hSw; (try dsimp only at hSw); go_simp; try with_reducible rfl)
        try simp only [Act.put, List.setIfInBounds_toArray, List.set_cons_zero, List.set_cons_succ]
        refine wpAnyH_take (i := 9) (oi := { dst := some 63, op := Op.move (Operand.tmp 11), type := 9, pos := "laws_lists_wt04c.go:242", after := #[{ on := 8, ground := Ground.guard }], guard := some (8, false) }) (v := undef) rfl (by kernel_rfl) (by kernel_rfl) (by kernel_rfl) (fun _ _ _ h => h) (Or.inr ⟨by rfl, rfl⟩) (by assumption) ?_
        try simp only [Act.put, List.setIfInBounds_toArray, List.set_cons_zero, List.set_cons_succ]
        refine wpAnyH_take (i := 10) (oi := { dst := some 64, op := Op.binOp BinOp.eql 9 (Operand.tmp 63) (Operand.const (Value.string { data := #[] })) 9, type := 4, pos := "laws_lists_wt04c.go:242", after := #[{ on := 9, ground := Ground.data }, { on := 8, ground := Ground.guard }], guard := some (8, false) }) (v := undef) rfl (by kernel_rfl) (by kernel_rfl) (by kernel_rfl) (fun _ _ _ h => h) (Or.inr ⟨by rfl, rfl⟩) (by assumption) ?_
        try simp only [Act.put, List.setIfInBounds_toArray, List.set_cons_zero, List.set_cons_succ]
        refine wpAnyH_take (i := 11) (oi := { dst := some 65, op := Op.pick (Operand.tmp 62) (Operand.const (Value.bool true)) (Operand.tmp 64), type := 4, pos := "laws_lists_wt04c.go:242", after := #[{ on := 8, ground := Ground.data }, { on := 10, ground := Ground.data }, { on := 4, ground := Ground.guard }], guard := some (4, true) }) (v := ?va42) rfl (by kernel_rfl) (by kernel_rfl) (by kernel_rfl) (fun _ _ _ h => h) (Or.inl ⟨by rfl, ?hy42⟩) (by assumption) ?re42
        case hy42 => (intro w hSw; (try dsimp only at hSw); go_simp; try with_reducible rfl)
        try simp only [Act.put, List.setIfInBounds_toArray, List.set_cons_zero, List.set_cons_succ]
        refine wpAnyH_take (i := 12) (oi := { dst := some 66, op := Op.pick (Operand.tmp 58) (Operand.tmp 65) (Operand.const (Value.bool false)), type := 4, pos := "laws_lists_wt04c.go:242", after := #[{ on := 4, ground := Ground.data }, { on := 11, ground := Ground.data }], guard := none }) (v := ?va43) rfl (by kernel_rfl) (by kernel_rfl) (by kernel_rfl) (fun _ _ _ h => h) (Or.inl ⟨by rfl, ?hy43⟩) (by assumption) ?re43
        case hy43 => (intro w hSw; (try dsimp only at hSw); go_simp; try with_reducible rfl)
        try simp only [Act.put, List.setIfInBounds_toArray, List.set_cons_zero, List.set_cons_succ]
        refine wpAnyH_take (i := 13) (oi := { dst := some 67, op := Op.move (Operand.tmp 66), type := 4, pos := "laws_lists_wt04c.go:242", after := #[{ on := 12, ground := Ground.data }, { on := 8, ground := Ground.chain }], guard := none }) (v := ?va44) rfl (by kernel_rfl) (by kernel_rfl) (by kernel_rfl) (fun _ _ _ h => h) (Or.inl ⟨by rfl, ?hy44⟩) (by assumption) ?re44
        case hy44 => (intro w hSw; (try dsimp only at hSw); go_simp; try with_reducible rfl)
        try simp only [Act.put, List.setIfInBounds_toArray, List.set_cons_zero, List.set_cons_succ]
        refine wpAnyH_take (i := 14) (oi := { dst := some 68, op := Op.move (Operand.tmp 9), type := 22, pos := "laws_lists_wt04c.go:242", after := #[{ on := 13, ground := Ground.guard }], guard := some (13, true) }) (v := ?va45) rfl (by kernel_rfl) (by kernel_rfl) (by kernel_rfl) (fun _ _ _ h => h) (Or.inl ⟨by rfl, ?hy45⟩) (by assumption) ?re45
        case hy45 => (intro w hSw; (try dsimp only at hSw); go_simp; try with_reducible rfl)
        try simp only [Act.put, List.setIfInBounds_toArray, List.set_cons_zero, List.set_cons_succ]
        refine wpAnyH_take (i := 15) (oi := { dst := some 69, op := Op.load 24 (Operand.tmp 4), type := 24, pos := "laws_lists_wt04c.go:242", after := #[{ on := 13, ground := Ground.guard }], guard := some (13, true) }) (v := ?va46) rfl (by kernel_rfl) (by kernel_rfl) (by kernel_rfl) (fun _ _ _ h => h) (Or.inl ⟨by rfl, ?hy46⟩) (by assumption) ?re46
        case hy46 => (intro w hSw; (try dsimp only at hSw); go_simp; try with_reducible rfl)
        try simp only [Act.put, List.setIfInBounds_toArray, List.set_cons_zero, List.set_cons_succ]
        refine wpAnyH_take (i := 18) (oi := { dst := some 72, op := Op.move (Operand.tmp 0), type := 22, pos := "laws_lists_wt04c.go:242", after := #[{ on := 13, ground := Ground.guard }], guard := some (13, true) }) (v := ?va47) rfl (by kernel_rfl) (by kernel_rfl) (by kernel_rfl) (fun _ _ _ h => h) (Or.inl ⟨by rfl, ?hy47⟩) (by assumption) ?re47
        case hy47 => (intro w hSw; (try dsimp only at hSw); go_simp; try with_reducible rfl)
        try simp only [Act.put, List.setIfInBounds_toArray, List.set_cons_zero, List.set_cons_succ]
        refine wpAnyH_take (i := 19) (oi := { dst := some 73, op := Op.load 24 (Operand.tmp 4), type := 24, pos := "laws_lists_wt04c.go:242", after := #[{ on := 13, ground := Ground.guard }], guard := some (13, true) }) (v := ?va48) rfl (by kernel_rfl) (by kernel_rfl) (by kernel_rfl) (fun _ _ _ h => h) (Or.inl ⟨by rfl, ?hy48⟩) (by assumption) ?re48
        case hy48 => (intro w hSw; (try dsimp only at hSw); go_simp; try with_reducible rfl)
        try simp only [Act.put, List.setIfInBounds_toArray, List.set_cons_zero, List.set_cons_succ]
        refine wpAnyH_ready (rs := [16]) (by kernel_rfl) (by simp) ?_
        refine AllReadyH.cons (o := { dst := some 70, op := Op.call { callee := Callee.value (Operand.func 20), args := #[Operand.tmp 68, Operand.tmp 69], argTypes := #[22, 24] }, type := 9, pos := "laws_lists_wt04c.go:242", after := #[{ on := 14, ground := Ground.data }, { on := 15, ground := Ground.data }, { on := 13, ground := Ground.chain }, { on := 13, ground := Ground.guard }], guard := some (13, true) }) rfl (fun K hK => ?_) AllReadyH.nil
        go_simp
        refine (HM1.out _ (H9.out _ hbC)).mono ?_
        rintro e w13 ⟨rfl, hbw13⟩
        have hbD := hbC.trans (hbw13.mono hbC.size)
        refine hK.out _ _ (HBOX9.out _ hbD) (fun hHeld => ?_)
        clear hK K
        try simp only [Act.put, List.setIfInBounds_toArray, List.set_cons_zero, List.set_cons_succ]
        refine wpAnyH_ready (rs := [17]) (by kernel_rfl) (by simp) ?_
        refine AllReadyH.cons (o := { dst := some 71, op := Op.call { callee := Callee.value (Operand.func 19), args := #[Operand.tmp 70], argTypes := #[9] }, type := 9, pos := "laws_lists_wt04c.go:242", after := #[{ on := 16, ground := Ground.data }, { on := 16, ground := Ground.chain }, { on := 13, ground := Ground.guard }], guard := some (13, true) }) rfl (fun K hK => ?_) AllReadyH.nil
        go_simp
        refine (tStrip_any m1 _ HZ2.out).mono ?_
        rintro e w14 ⟨rfl, hbw14⟩
        rw [HS2.out]
        have hbE := hbD.trans (hbw14.mono hbD.size)
        refine hK.out _ _ (HBOX9.out _ hbE) (fun hHeld => ?_)
        clear hK K
        try simp only [Act.put, List.setIfInBounds_toArray, List.set_cons_zero, List.set_cons_succ]
        refine wpAnyH_ready (rs := [20]) (by kernel_rfl) (by simp) ?_
        refine AllReadyH.cons (o := { dst := some 74, op := Op.call { callee := Callee.value (Operand.func 20), args := #[Operand.tmp 72, Operand.tmp 73], argTypes := #[22, 24] }, type := 9, pos := "laws_lists_wt04c.go:242", after := #[{ on := 18, ground := Ground.data }, { on := 19, ground := Ground.data }, { on := 17, ground := Ground.chain }, { on := 13, ground := Ground.guard }], guard := some (13, true) }) rfl (fun K hK => ?_) AllReadyH.nil
        go_simp
        refine (HM0.out _ (HL9.out _ hbE)).mono ?_
        rintro e w15 ⟨rfl, hbw15⟩
        have hbF := hbE.trans (hbw15.mono hbE.size)
        refine hK.out _ _ (HBOX9.out _ hbF) (fun hHeld => ?_)
        clear hK K
        try simp only [Act.put, List.setIfInBounds_toArray, List.set_cons_zero, List.set_cons_succ]
        refine wpAnyH_take (i := 21) (oi := { dst := some 75, op := Op.binOp BinOp.eql 9 (Operand.tmp 71) (Operand.tmp 74) 9, type := 4, pos := "laws_lists_wt04c.go:242", after := #[{ on := 17, ground := Ground.data }, { on := 20, ground := Ground.data }, { on := 13, ground := Ground.guard }], guard := some (13, true) }) (v := ?va49) rfl (by kernel_rfl) (by kernel_rfl) (by kernel_rfl) (fun _ _ _ h => h) (Or.inl ⟨by rfl, ?hy49⟩) (by assumption) ?re49
        case hy49 => (intro w hSw; (try dsimp only at hSw); go_simp; try with_reducible rfl)
        try simp only [Act.put, List.setIfInBounds_toArray, List.set_cons_zero, List.set_cons_succ]
        refine wpAnyH_take (i := 22) (oi := { dst := some 76, op := Op.pick (Operand.tmp 67) (Operand.tmp 75) (Operand.const (Value.bool false)), type := 4, pos := "laws_lists_wt04c.go:242", after := #[{ on := 13, ground := Ground.data }, { on := 21, ground := Ground.data }], guard := none }) (v := ?va50) rfl (by kernel_rfl) (by kernel_rfl) (by kernel_rfl) (fun _ _ _ h => h) (Or.inl ⟨by rfl, ?hy50⟩) (by assumption) ?re50
        case hy50 => (intro w hSw; (try dsimp only at hSw); go_simp; try with_reducible rfl)
        try simp only [Act.put, List.setIfInBounds_toArray, List.set_cons_zero, List.set_cons_succ]
        refine wpAnyH_take (i := 23) (oi := { dst := some 77, op := Op.move (Operand.tmp 76), type := 4, pos := "laws_lists_wt04c.go:242", after := #[{ on := 22, ground := Ground.data }, { on := 20, ground := Ground.chain }], guard := none }) (v := ?va51) rfl (by kernel_rfl) (by kernel_rfl) (by kernel_rfl) (fun _ _ _ h => h) (Or.inl ⟨by rfl, ?hy51⟩) (by assumption) ?re51
        case hy51 => (intro w hSw; (try dsimp only at hSw); go_simp; try with_reducible rfl)
        try simp only [Act.put, List.setIfInBounds_toArray, List.set_cons_zero, List.set_cons_succ]
        refine wpAnyH_take (i := 24) (oi := { dst := some 78, op := Op.move (Operand.tmp 9), type := 22, pos := "laws_lists_wt04c.go:242", after := #[{ on := 23, ground := Ground.guard }], guard := some (23, true) }) (v := ?va52) rfl (by kernel_rfl) (by kernel_rfl) (by kernel_rfl) (fun _ _ _ h => h) (Or.inl ⟨by rfl, ?hy52⟩) (by assumption) ?re52
        case hy52 => (intro w hSw; (try dsimp only at hSw); go_simp; try with_reducible rfl)
        try simp only [Act.put, List.setIfInBounds_toArray, List.set_cons_zero, List.set_cons_succ]
        refine wpAnyH_take (i := 27) (oi := { dst := some 81, op := Op.move (Operand.tmp 0), type := 22, pos := "laws_lists_wt04c.go:242", after := #[{ on := 23, ground := Ground.guard }], guard := some (23, true) }) (v := ?va53) rfl (by kernel_rfl) (by kernel_rfl) (by kernel_rfl) (fun _ _ _ h => h) (Or.inl ⟨by rfl, ?hy53⟩) (by assumption) ?re53
        case hy53 => (intro w hSw; (try dsimp only at hSw); go_simp; try with_reducible rfl)
        try simp only [Act.put, List.setIfInBounds_toArray, List.set_cons_zero, List.set_cons_succ]
        refine wpAnyH_ready (rs := [25]) (by kernel_rfl) (by simp) ?_
        refine AllReadyH.cons (o := { dst := some 79, op := Op.call { callee := Callee.value (Operand.func 21), args := #[Operand.tmp 78, Operand.const (Value.string { data := #[] })], argTypes := #[22, 9] }, type := 9, pos := "laws_lists_wt04c.go:242", after := #[{ on := 24, ground := Ground.data }, { on := 23, ground := Ground.chain }, { on := 23, ground := Ground.guard }], guard := some (23, true) }) rfl (fun K hK => ?_) AllReadyH.nil
        go_simp
        refine (HT1.out _ (H9.out _ hbF)).mono ?_
        rintro e w16 ⟨rfl, hbw16⟩
        have hbG := hbF.trans (hbw16.mono hbF.size)
        refine hK.out _ _ (HBOX9.out _ hbG) (fun hHeld => ?_)
        clear hK K
        try simp only [Act.put, List.setIfInBounds_toArray, List.set_cons_zero, List.set_cons_succ]
        refine wpAnyH_ready (rs := [26]) (by kernel_rfl) (by simp) ?_
        refine AllReadyH.cons (o := { dst := some 80, op := Op.call { callee := Callee.value (Operand.func 19), args := #[Operand.tmp 79], argTypes := #[9] }, type := 9, pos := "laws_lists_wt04c.go:242", after := #[{ on := 25, ground := Ground.data }, { on := 25, ground := Ground.chain }, { on := 23, ground := Ground.guard }], guard := some (23, true) }) rfl (fun K hK => ?_) AllReadyH.nil
        go_simp
        refine (tStrip_any t1 _ HZ3.out).mono ?_
        rintro e w17 ⟨rfl, hbw17⟩
        rw [HS3.out]
        have hbH := hbG.trans (hbw17.mono hbG.size)
        refine hK.out _ _ (HBOX9.out _ hbH) (fun hHeld => ?_)
        clear hK K
        try simp only [Act.put, List.setIfInBounds_toArray, List.set_cons_zero, List.set_cons_succ]
        refine wpAnyH_ready (rs := [28]) (by kernel_rfl) (by simp) ?_
        refine AllReadyH.cons (o := { dst := some 82, op := Op.call { callee := Callee.value (Operand.func 21), args := #[Operand.tmp 81, Operand.const (Value.string { data := #[] })], argTypes := #[22, 9] }, type := 9, pos := "laws_lists_wt04c.go:242", after := #[{ on := 27, ground := Ground.data }, { on := 26, ground := Ground.chain }, { on := 23, ground := Ground.guard }], guard := some (23, true) }) rfl (fun K hK => ?_) AllReadyH.nil
        go_simp
        refine (HT0.out _ (HL9.out _ hbH)).mono ?_
        rintro e w18 ⟨rfl, hbw18⟩
        have hbI := hbH.trans (hbw18.mono hbH.size)
        refine hK.out _ _ (HBOX9.out _ hbI) (fun hHeld => ?_)
        clear hK K
        try simp only [Act.put, List.setIfInBounds_toArray, List.set_cons_zero, List.set_cons_succ]
        refine wpAnyH_take (i := 29) (oi := { dst := some 83, op := Op.binOp BinOp.eql 9 (Operand.tmp 80) (Operand.tmp 82) 9, type := 4, pos := "laws_lists_wt04c.go:242", after := #[{ on := 26, ground := Ground.data }, { on := 28, ground := Ground.data }, { on := 23, ground := Ground.guard }], guard := some (23, true) }) (v := ?va54) rfl (by kernel_rfl) (by kernel_rfl) (by kernel_rfl) (fun _ _ _ h => h) (Or.inl ⟨by rfl, ?hy54⟩) (by assumption) ?re54
        case hy54 => (intro w hSw; (try dsimp only at hSw); go_simp; try with_reducible rfl)
        try simp only [Act.put, List.setIfInBounds_toArray, List.set_cons_zero, List.set_cons_succ]
        refine wpAnyH_take (i := 30) (oi := { dst := some 84, op := Op.pick (Operand.tmp 77) (Operand.tmp 83) (Operand.const (Value.bool false)), type := 4, pos := "laws_lists_wt04c.go:242", after := #[{ on := 23, ground := Ground.data }, { on := 29, ground := Ground.data }], guard := none }) (v := ?va55) rfl (by kernel_rfl) (by kernel_rfl) (by kernel_rfl) (fun _ _ _ h => h) (Or.inl ⟨by rfl, ?hy55⟩) (by assumption) ?re55
        case hy55 => (intro w hSw; (try dsimp only at hSw); go_simp; try with_reducible rfl)
        try simp only [Act.put, List.setIfInBounds_toArray, List.set_cons_zero, List.set_cons_succ]
        refine wpAnyH_take (i := 31) (oi := { dst := some 85, op := Op.move (Operand.tmp 84), type := 4, pos := "laws_lists_wt04c.go:242", after := #[{ on := 30, ground := Ground.data }, { on := 28, ground := Ground.chain }], guard := none }) (v := ?va56) rfl (by kernel_rfl) (by kernel_rfl) (by kernel_rfl) (fun _ _ _ h => h) (Or.inl ⟨by rfl, ?hy56⟩) (by assumption) ?re56
        case hy56 => (intro w hSw; (try dsimp only at hSw); go_simp; try with_reducible rfl)
        try simp only [Act.put, List.setIfInBounds_toArray, List.set_cons_zero, List.set_cons_succ]
        refine wpAnyH_ready (rs := [32]) (by kernel_rfl) (by simp) ?_
        refine AllReadyH.cons (o := { dst := some 86, op := Op.call { callee := Callee.value (Operand.func 22), args := #[], argTypes := #[] }, type := 4, pos := "laws_lists_wt04c.go:242", after := #[{ on := 31, ground := Ground.chain }, { on := 31, ground := Ground.guard }], guard := some (31, true) }) rfl (fun K hK => ?_) AllReadyH.nil
        go_simp
        refine (alive_any _).mono ?_
        rintro e w19 ⟨rfl, hbw19⟩
        have hbJ := hbI.trans (hbw19.mono hbI.size)
        refine hK.out _ _ (HBOX9.out _ hbJ) (fun hHeld => ?_)
        clear hK K
        try simp only [Act.put, List.setIfInBounds_toArray, List.set_cons_zero, List.set_cons_succ]
        refine wpAnyH_take (i := 33) (oi := { dst := some 87, op := Op.pick (Operand.tmp 85) (Operand.tmp 86) (Operand.const (Value.bool false)), type := 4, pos := "laws_lists_wt04c.go:242", after := #[{ on := 31, ground := Ground.data }, { on := 32, ground := Ground.data }], guard := none }) (v := ?va57) rfl (by kernel_rfl) (by kernel_rfl) (by kernel_rfl) (fun _ _ _ h => h) (Or.inl ⟨by rfl, ?hy57⟩) (by assumption) ?re57
        case hy57 => (intro w hSw; (try dsimp only at hSw); go_simp; try with_reducible rfl)
        try simp only [Act.put, List.setIfInBounds_toArray, List.set_cons_zero, List.set_cons_succ]
        refine wpAnyH_take (i := 34) (oi := { dst := some 6, op := Op.assign (Operand.tmp 87), type := 4, pos := "laws_lists_wt04c.go:242", after := #[{ on := 33, ground := Ground.data }, { on := 32, ground := Ground.chain }, { on := 0, ground := Ground.phase }, { on := 1, ground := Ground.phase }, { on := 2, ground := Ground.phase }, { on := 3, ground := Ground.phase }, { on := 4, ground := Ground.phase }, { on := 5, ground := Ground.phase }, { on := 6, ground := Ground.phase }, { on := 7, ground := Ground.phase }, { on := 8, ground := Ground.phase }, { on := 9, ground := Ground.phase }, { on := 10, ground := Ground.phase }, { on := 11, ground := Ground.phase }, { on := 12, ground := Ground.phase }, { on := 13, ground := Ground.phase }, { on := 14, ground := Ground.phase }, { on := 15, ground := Ground.phase }, { on := 16, ground := Ground.phase }, { on := 17, ground := Ground.phase }, { on := 18, ground := Ground.phase }, { on := 19, ground := Ground.phase }, { on := 20, ground := Ground.phase }, { on := 21, ground := Ground.phase }, { on := 22, ground := Ground.phase }, { on := 23, ground := Ground.phase }, { on := 24, ground := Ground.phase }, { on := 25, ground := Ground.phase }, { on := 26, ground := Ground.phase }, { on := 27, ground := Ground.phase }, { on := 28, ground := Ground.phase }, { on := 29, ground := Ground.phase }, { on := 30, ground := Ground.phase }, { on := 31, ground := Ground.phase }, { on := 32, ground := Ground.phase }, { on := 33, ground := Ground.phase }], guard := none }) (v := ?va58) rfl (by kernel_rfl) (by kernel_rfl) (by kernel_rfl) (fun _ _ _ h => h) (Or.inl ⟨by rfl, ?hy58⟩) (by assumption) ?re58
        case hy58 => (intro w hSw; (try dsimp only at hSw); go_simp; try with_reducible rfl)
        try simp only [Act.put, List.setIfInBounds_toArray, List.set_cons_zero, List.set_cons_succ]
        refine wpAnyH_done (by kernel_rfl) ?_ _
        go_wp2_with fail
        go_ret
        exact ⟨rfl, HF.out _ hbJ⟩
end Go.Proofs.YtdkpacgbniclhaaGreatDoor
