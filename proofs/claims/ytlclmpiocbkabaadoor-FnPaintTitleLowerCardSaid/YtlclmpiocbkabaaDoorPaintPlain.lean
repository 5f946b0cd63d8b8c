/- Plain laws: what a painted text is, and how it is read. -/
import Derived.Test.YtlclmpiocbkabaaDoorPrint
import Derived.Test.YtlclmpiocbkabaaDoorUtf
import Derived.Test.YtlclmpiocbkabaaDoorRead
import Derived.Test.YtlclmpiocbkabaaDoorSimple
namespace Go.Proofs.YtlclmpiocbkabaaDoor
open Go.RowKit

theorem prefix_head {x y : UInt8} {p l : List UInt8} (h : x ≠ y) : (x :: p).isPrefixOf (y :: l) = false := by simp [List.isPrefixOf, h]
theorem replL_no27 (p n b : List UInt8) : ∀ a : List UInt8, (27 : UInt8) ∉ a → replL (27 :: p) n (a ++ b) = a ++ replL (27 :: p) n b
  | [], _ => rfl
  | x :: a, h => by
    have hx : (27 : UInt8) ≠ x := fun e => h (by simp [e])
    rw [List.cons_append, replL_miss n (prefix_head hx), replL_no27 p n b a (fun e => h (by simp [e]))]
    rfl

/-- Bytes of decimal digits. -/
def isDigit (b : UInt8) : Prop := 48 ≤ b.toNat ∧ b.toNat ≤ 57
theorem digit_mk {j : Nat} (h : j < 10) : isDigit (UInt8.ofNat (48 + j)) := by
  have : (UInt8.ofNat (48 + j)).toNat = 48 + j := by simp [UInt8.toNat_ofNat']; omega
  unfold isDigit; omega
theorem decL_digits (n : Nat) : ∀ b ∈ decL n, isDigit b := by
  by_cases h : n < 10
  · rw [decL_small h]; intro b hb; rw [List.mem_singleton] at hb; subst hb; exact digit_mk h
  · rw [decL_big h]
    intro b hb
    rw [List.mem_append] at hb
    rcases hb with hb | hb
    · exact decL_digits (n / 10) b hb
    · rw [List.mem_singleton] at hb; subst hb; exact digit_mk (Nat.mod_lt _ (by omega))
termination_by n
decreasing_by omega

/-- The bytes of a text of ASCII as characters. -/
def chars (l : List UInt8) : List Int := l.map fun b => (b.toNat : Int)
theorem chars_append (a b : List UInt8) : chars (a ++ b) = chars a ++ chars b := List.map_append
theorem digit_char {j : Nat} (h : j < 10) : ((UInt8.ofNat (48 + j)).toNat : Int) = 48 + j := by
  have : (UInt8.ofNat (48 + j)).toNat = 48 + j := by simp [UInt8.toNat_ofNat']; omega
  omega

/-- A number of at most three digits is read. -/
theorem readSeq_code (n : Nat) (hn : n < 1000) (rest : List Int) (on : List Int) : ∃ d : Int, 0 < d ∧ d ≤ 3 ∧ readSeq (chars (decL n) ++ rest) 0 0 on = readSeq rest n d on := by
  have step : ∀ (m d j : Nat) (rest : List Int), j < 10 → d < 3 → readSeq (((UInt8.ofNat (48 + j)).toNat : Int) :: rest) m d on = readSeq rest ((10 * m + j : Nat) : Int) ((d + 1 : Nat) : Int) on := by
    intro m d j rest hj hd
    rw [digit_char hj, readSeq_digit (by omega) (by omega) (by omega)]
    congr 1; omega
  by_cases h1 : n < 10
  · refine ⟨1, by omega, by omega, ?_⟩
    rw [decL_small h1]
    have := step 0 0 n rest h1 (by omega)
    simpa [chars] using this
  · by_cases h2 : n < 100
    · refine ⟨2, by omega, by omega, ?_⟩
      rw [decL_big h1, decL_small (by omega)]
      have e1 := step 0 0 (n / 10) (((UInt8.ofNat (48 + n % 10)).toNat : Int) :: rest) (by omega) (by omega)
      have e2 := step (10 * 0 + n / 10) 1 (n % 10) rest (by omega) (by omega)
      rw [show 10 * (10 * 0 + n / 10) + n % 10 = n by omega] at e2
      exact e1.trans e2
    · refine ⟨3, by omega, by omega, ?_⟩
      rw [decL_big h1, decL_big (by omega), decL_small (by omega)]
      have e1 := step 0 0 (n / 10 / 10) (((UInt8.ofNat (48 + n / 10 % 10)).toNat : Int) :: ((UInt8.ofNat (48 + n % 10)).toNat : Int) :: rest) (by omega) (by omega)
      have e2 := step (10 * 0 + n / 10 / 10) 1 (n / 10 % 10) (((UInt8.ofNat (48 + n % 10)).toNat : Int) :: rest) (by omega) (by omega)
      have e3 := step (10 * (10 * 0 + n / 10 / 10) + n / 10 % 10) 2 (n % 10) rest (by omega) (by omega)
      rw [show 10 * (10 * (10 * 0 + n / 10 / 10) + n / 10 % 10) + n % 10 = n by omega] at e3
      exact e1.trans (e2.trans e3)

theorem readSeq_codes : ∀ (l : List Int) (on rest : List Int), l ≠ [] → (∀ c ∈ l, 0 ≤ c ∧ c < 1000) → readSeq (chars (Lib.join (l.map codeL) [59] ++ [109]) ++ rest) 0 0 on = some (rest, l.foldl withC on)
  | [], _, _, h, _ => absurd rfl h
  | [c], on, rest, _, hc => by
    have h0 := hc c (by simp)
    obtain ⟨d, hd0, hd3, hr⟩ := readSeq_code c.toNat (by omega) (109 :: rest) on
    rw [List.map_cons, List.map_nil, Lib.join_one, chars_append, List.append_assoc]
    show readSeq (chars (codeL c) ++ (109 :: rest)) 0 0 on = _
    rw [show codeL c = decL c.toNat from rfl, hr, readSeq_m hd0, Int.toNat_of_nonneg h0.1]
    rfl
  | c :: x :: l, on, rest, _, hc => by
    have h0 := hc c (by simp)
    have ih := readSeq_codes (x :: l) (withC on c) rest (by simp) (fun y hy => hc y (by simp at hy ⊢; exact Or.inr hy))
    obtain ⟨d, hd0, hd3, hr⟩ := readSeq_code c.toNat (by omega) (59 :: (chars (Lib.join ((x :: l).map codeL) [59] ++ [109]) ++ rest)) on
    have e : Lib.join ((c :: x :: l).map codeL) [59] = codeL c ++ (59 :: Lib.join ((x :: l).map codeL) [59]) := by
      simp only [List.map_cons]
      rw [Lib.join_cons, Lib.join_cons]
      simp [Lib.joinTail]
    rw [e, List.append_assoc, chars_append, List.append_assoc]
    show readSeq (chars (decL c.toNat) ++ (59 :: (chars (Lib.join ((x :: l).map codeL) [59] ++ [109]) ++ rest))) 0 0 on = _
    rw [hr, readSeq_semi hd0, Int.toNat_of_nonneg h0.1, ih]
    rfl

theorem readAll_chars (rs rest on : List Int) (cells : List (Int × List Int)) (h : ∀ r ∈ rs, r ≠ 27) : readAll (rs ++ rest) on cells = readAll rest on (cells ++ rs.map fun r => (r, on)) := by
  induction rs generalizing cells with
  | nil => simp
  | cons r rs ih =>
    rw [List.cons_append, readAll_char (h r (by simp)), ih _ (fun x hx => h x (by simp [hx]))]
    simp

/-- The sequence of some colors is read: they are on. -/
theorem readAll_seq (l : List Int) (hl : l ≠ []) (hc : ∀ c ∈ l, 0 ≤ c ∧ c < 1000) (rest on : List Int) (cells : List (Int × List Int)) : readAll (chars (seqL l) ++ rest) on cells = readAll rest (l.foldl withC on) cells := by
  have e : chars (seqL l) ++ rest = 27 :: 91 :: (chars (Lib.join (l.map codeL) [59] ++ [109]) ++ rest) := by
    rw [seqL, if_neg hl, List.append_assoc]
    rfl
  rw [e, readAll_some (readSeq_codes l on rest hl hc)]
theorem readAll_reset (rest on : List Int) (cells : List (Int × List Int)) : readAll (chars RESET ++ rest) on cells = readAll rest [] cells := by
  have e : chars RESET ++ rest = 27 :: 91 :: (48 :: 109 :: rest) := rfl
  have h : readSeq (48 :: 109 :: rest) 0 0 on = some (rest, []) := by
    rw [readSeq_digit (by omega) (by omega) (by omega), readSeq_m (by omega)]
    rfl
  rw [e, readAll_some h]

theorem seqL_ascii (l : List Int) : ∀ b ∈ seqL l, b.toNat < 128 := by
  have key : ∀ l : List Int, ∀ b ∈ Lib.join (l.map codeL) [59], b.toNat < 128 := by
    intro l
    cases l with
    | nil => intro b hb; simp [Lib.join_nil] at hb
    | cons x r =>
      intro b hb
      rw [List.map_cons, Lib.join_cons, List.mem_append] at hb
      rcases hb with hb | hb
      · have := decL_digits _ b hb; unfold isDigit at this; omega
      · unfold Lib.joinTail at hb
        simp only [List.mem_flatten, List.mem_map] at hb
        obtain ⟨_, ⟨_, ⟨y, _, rfl⟩, rfl⟩, hb⟩ := hb
        simp at hb
        rcases hb with rfl | hb
        · decide
        · have := decL_digits _ b hb; unfold isDigit at this; omega
  intro b hb
  unfold seqL at hb
  split at hb
  · simp at hb
  · simp only [List.mem_append, List.mem_cons, List.not_mem_nil, or_false] at hb
    rcases hb with ((rfl | rfl) | hb) | rfl
    · decide
    · decide
    · exact key l b hb
    · decide
/-- A sequence bears one escape: its first byte. -/
theorem seqL_tail (l : List Int) (hl : l ≠ []) : ∃ q, seqL l = 27 :: q ∧ (27 : UInt8) ∉ q ∧ q.getLast? = some 109 := by
  refine ⟨(91 :: Lib.join (l.map codeL) [59]) ++ [109], by rw [seqL, if_neg hl]; rfl, ?_, by exact List.getLast?_concat⟩
  have key : (27 : UInt8) ∉ Lib.join (l.map codeL) [59] := by
    cases l with
    | nil => exact absurd rfl hl
    | cons x r =>
      intro hb
      rw [List.map_cons, Lib.join_cons, List.mem_append] at hb
      rcases hb with hb | hb
      · have := decL_digits _ _ hb; unfold isDigit at this; revert this; decide
      · unfold Lib.joinTail at hb
        simp only [List.mem_flatten, List.mem_map] at hb
        obtain ⟨_, ⟨_, ⟨y, _, rfl⟩, rfl⟩, hb⟩ := hb
        simp at hb
        have := decL_digits _ _ hb; unfold isDigit at this; revert this; decide
  intro hb
  simp at hb
  exact key hb

/-- A text without an escape gets its color: the sequence, the text, the end of it. -/
theorem esc_plain (l : List Int) (hl : l ≠ []) (s : List UInt8) (hs : s ≠ []) (h27 : (27 : UInt8) ∉ s) : esc2 s (seqL l) = seqL l ++ s ++ RESET ∧ escL s (seqL l) = seqL l ++ s ++ RESET := by
  obtain ⟨q, hq, hq27, hqm⟩ := seqL_tail l hl
  obtain ⟨x, t, rfl⟩ : ∃ x t, s = x :: t := by cases s with
    | nil => exact absurd rfl hs
    | cons x t => exact ⟨x, t, rfl⟩
  have hx : x ≠ 27 := fun e => h27 (by simp [e])
  have hx' : (27 : UInt8) ≠ x := fun e => hx e.symm
  have hrep : replL RESET (RESET ++ seqL l) (x :: t) = x :: t := by
    have := replL_no27 [91, 48, 109] (RESET ++ seqL l) [] (x :: t) h27
    rw [List.append_nil, replL_nil, List.append_nil] at this
    exact this
  have hpre : escPre (x :: t) (seqL l) = seqL l := by
    unfold escPre
    rw [if_neg]
    simp [Lib.hasPrefix, List.isPrefixOf, hx']
  have e1 : esc1 (x :: t) (seqL l) = seqL l ++ (x :: t) := by rw [esc1, hpre, hrep]
  have hsuf : Lib.hasSuffix (seqL l ++ (x :: t)) RESET = false := by
    cases e : Lib.hasSuffix (seqL l ++ (x :: t)) RESET with
    | false => rfl
    | true =>
      exfalso
      unfold Lib.hasSuffix at e
      obtain ⟨pre, he⟩ := List.isSuffixOf_iff_suffix.1 e
      -- the escape of the end stands in the text, or is the sequence's own
      have hlen := congrArg List.length he
      simp [RESET] at hlen
      have h1 : (pre ++ RESET)[pre.length]? = some 27 := by rw [List.getElem?_append_right (Nat.le_refl _)]; simp [RESET]
      rw [he] at h1
      by_cases hlt : pre.length < (seqL l).length
      · rw [List.getElem?_append_left hlt, hq] at h1
        cases hp : pre.length with
        | zero =>
          rw [hp, hq] at hlen
          simp at hlen
          obtain rfl := List.eq_nil_of_length_eq_zero hp
          rw [hq] at he
          simp [RESET] at he
          -- the sequence is the whole end but its last letter is m
          have hm : q.getLast? = some 109 := hqm
          have he2 : q ++ (x :: t) = [91, 48, 109] := he.symm
          cases q with
          | nil => simp at hm
          | cons a q =>
            cases q with
            | nil => simp at hm he2; rw [hm] at he2; simp at he2
            | cons b q =>
              cases q with
              | nil => simp at hm he2; rw [hm] at he2; simp at he2
              | cons c q => simp at he2
        | succ k =>
          rw [hp, List.getElem?_cons_succ] at h1
          exact hq27 (List.mem_of_getElem? h1)
      · rw [List.getElem?_append_right (by omega)] at h1
        exact h27 (List.mem_of_getElem? h1)
  have e2 : esc2 (x :: t) (seqL l) = seqL l ++ (x :: t) ++ RESET := by rw [esc2, e1, escPost, if_neg (by rw [hsuf]; simp)]
  refine ⟨e2, ?_⟩
  rw [escL, e2, hq]
  -- no place where the sequence stands right ahead of the end
  have hpat : (27 :: q) ++ RESET = 27 :: (q ++ RESET) := rfl
  have h0 : ((27 :: q) ++ RESET).isPrefixOf ((27 :: q) ++ (x :: t) ++ RESET) = false := by
    cases e : ((27 :: q) ++ RESET).isPrefixOf ((27 :: q) ++ (x :: t) ++ RESET) with
    | false => rfl
    | true =>
      exfalso
      obtain ⟨r, hr⟩ := List.isPrefixOf_iff_prefix.1 e
      rw [List.append_assoc, List.append_assoc] at hr
      have := List.append_cancel_left hr
      simp [RESET] at this
      exact hx this.1.symm
  have hsplit : (27 :: q) ++ (x :: t) ++ RESET = 27 :: ((q ++ (x :: t)) ++ RESET) := by simp
  rw [hpat] at h0 ⊢
  rw [hsplit] at h0 ⊢
  rw [replL_miss [] h0, replL_no27 _ _ _ _ (by simp; exact ⟨hq27, hx', fun h => h27 (by simp [h])⟩)]
  rw [replL_short [] RESET (by simp [RESET])]

theorem okB_ne27 {r : Int} {b : Bool} (h : okB b r = true) : r ≠ 27 ∧ r ≠ 65533 := by
  constructor
  · rintro rfl; revert h; cases b <;> decide
  · rintro rfl; revert h; cases b <;> decide
theorem simple_no27 {s : ByteArray} {b : Bool} (h : simpleB s b = true) : (27 : UInt8) ∉ bl s := by
  intro hm
  have := byte_in_runes hm (by decide)
  unfold simpleB at h
  rw [List.all_eq_true] at h
  exact (okB_ne27 (h _ this)).1 rfl
theorem simple_runes {s : ByteArray} {b : Bool} (h : simpleB s b = true) : ∀ r ∈ runes s, r ≠ 27 ∧ r ≠ 65533 := by
  unfold simpleB at h
  rw [List.all_eq_true] at h
  exact fun r hr => okB_ne27 (h r hr)

theorem among_iff (l : List Int) (x : Int) : amongB l x = true ↔ x ∈ l := by
  unfold amongB
  rw [List.any_eq_true]
  constructor
  · rintro ⟨y, hy, he⟩; simp at he; rw [← he]; exact hy
  · intro h; exact ⟨x, h, by simp⟩
theorem alike_iff (a b : List Int) : alikeB a b = true ↔ (∀ x ∈ a, x ∈ b) ∧ (∀ x ∈ b, x ∈ a) := by
  unfold alikeB
  rw [Bool.and_eq_true, List.all_eq_true, List.all_eq_true]
  simp only [among_iff]
theorem withC_mem {l : List Int} {c x : Int} (hc : c ≠ 0) : x ∈ withC l c ↔ x ∈ l ∨ x = c := by
  unfold withC
  rw [if_neg hc]
  split
  · rename_i h
    rw [among_iff] at h
    constructor
    · exact Or.inl
    · rintro (h' | rfl)
      · exact h'
      · exact h
  · simp
theorem foldl_with_mem : ∀ (cs l : List Int) (x : Int), (∀ c ∈ cs, c ≠ 0) → (x ∈ cs.foldl withC l ↔ x ∈ l ∨ x ∈ cs)
  | [], l, x, _ => by simp
  | c :: cs, l, x, h => by
    rw [List.foldl_cons, foldl_with_mem cs _ x (fun y hy => h y (by simp [hy])), withC_mem (h c (by simp))]
    simp [or_assoc]

theorem sameB_of : ∀ (rs : List Int) (a b : List Int), alikeB a b = true → sameB (rs.map fun r => (r, a)) (rs.map fun r => (r, b)) = true
  | [], _, _, _ => rfl
  | r :: rs, a, b, h => by simp only [List.map_cons, sameB]; rw [sameB_of rs a b h]; simp [h]

theorem runes_seq (l : List Int) : runes ⟨(seqL l).toArray⟩ = chars (seqL l) := runes_mk _ (seqL_ascii l)
theorem runes_painted (l : List Int) (s : ByteArray) (h : ∀ r ∈ runes s, r ≠ 65533) : runes ⟨(seqL l ++ bl s ++ RESET).toArray⟩ = chars (seqL l) ++ (runes s ++ chars RESET) := by
  have e : (⟨(seqL l ++ bl s ++ RESET).toArray⟩ : ByteArray) = ⟨(seqL l).toArray⟩ ++ (s ++ ⟨RESET.toArray⟩) := by
    apply bl_ext
    rw [bl_mk, bl_app, bl_app, bl_mk, bl_mk, List.append_assoc]
  rw [e, runes_app, runes_app _ _ h, runes_seq, runes_mk RESET (by decide)]
  · rfl
  · rw [runes_seq]
    intro r hr
    obtain ⟨b, hb, rfl⟩ := List.mem_map.1 hr
    have := seqL_ascii l b hb
    omega

theorem attr_range {c : Int} (h : attrB c = true) : 0 < c ∧ c < 1000 := by
  unfold attrB at h
  simp at h
  omega

/-- What is printed in colors is read: just these are on at each character, and nothing behind. -/
theorem print_read (l : List Int) (s : ByteArray) (hs : bl s ≠ []) (hsim : simpleB s true = true) (hc : ∀ c ∈ l, attrB c = true) :
    ∃ got now, readText ⟨(paintL (bl s) (seqL l)).toArray⟩ = some (got, now) ∧ sameB got (painted s l) = true ∧ alikeB now [] = true := by
  have hr := simple_runes hsim
  have h27 := simple_no27 hsim
  by_cases hl : l = []
  · subst hl
    have e : (⟨(paintL (bl s) (seqL [])).toArray⟩ : ByteArray) = s := by
      apply bl_ext
      rw [bl_mk, paintL, if_pos (show seqL [] = [] by rw [seqL, if_pos rfl])]
    refine ⟨(runes s).map fun r => (r, []), [], ?_, sameB_of _ _ _ (by decide), by decide⟩
    rw [e, readText]
    have := readAll_chars (runes s) [] [] [] (fun r h => (hr r h).1)
    rw [List.append_nil] at this
    rw [this, readAll_nil]
    rfl
  · have hne : seqL l ≠ [] := by rw [seqL, if_neg hl]; simp
    have e : (⟨(paintL (bl s) (seqL l)).toArray⟩ : ByteArray) = ⟨(seqL l ++ bl s ++ RESET).toArray⟩ := by
      rw [paintL, if_neg hne, (esc_plain l hl (bl s) hs h27).2]
    refine ⟨(runes s).map fun r => (r, l.foldl withC []), [], ?_, sameB_of _ _ _ ?_, by decide⟩
    · rw [e, readText, runes_painted l s (fun r h => (hr r h).2), readAll_seq l hl (fun c h => ⟨by have := attr_range (hc c h); omega, (attr_range (hc c h)).2⟩)]
      rw [readAll_chars _ _ _ _ (fun r h => (hr r h).1)]
      have := readAll_reset [] (l.foldl withC []) (([] : List (Int × List Int)) ++ (runes s).map fun r => (r, l.foldl withC []))
      rw [List.append_nil] at this
      rw [this, readAll_nil]
      rfl
    · rw [alike_iff]
      have hz : ∀ c ∈ l, c ≠ 0 := fun c h => by have := attr_range (hc c h); omega
      constructor
      · intro x hx; rcases (foldl_with_mem l [] x hz).1 hx with h | h
        · simp at h
        · exact h
      · intro x hx; exact (foldl_with_mem l [] x hz).2 (Or.inr hx)
end Go.Proofs.YtlclmpiocbkabaaDoor
