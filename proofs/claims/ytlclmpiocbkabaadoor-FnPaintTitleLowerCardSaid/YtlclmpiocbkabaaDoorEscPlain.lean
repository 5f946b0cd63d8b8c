/- Plain laws: what is read of pieces that get a color. No condition. -/
import Derived.Test.YtlclmpiocbkabaaDoorPaintPlain
import Derived.Test.YtlclmpiocbkabaaDoorGood
namespace Go.Proofs.YtlclmpiocbkabaaDoor
open Go.RowKit

theorem decL_head : ∀ n : Nat, 0 < n → ∃ d t, decL n = d :: t ∧ d ≠ 48
  | n, h => by
    rw [decL]
    split
    · rename_i hn
      refine ⟨UInt8.ofNat (48 + n), [], rfl, ?_⟩
      intro e
      have := congrArg UInt8.toNat e
      rw [UInt8.toNat_ofNat'] at this
      have h48 : (48 : UInt8).toNat = 48 := rfl
      rw [h48, Nat.mod_eq_of_lt (by omega)] at this
      omega
    · rename_i hn
      obtain ⟨d, t, h1, h2⟩ := decL_head (n / 10) (by omega)
      exact ⟨d, t ++ [UInt8.ofNat (48 + n % 10)], by rw [h1]; rfl, h2⟩
termination_by n => n
decreasing_by omega

/-- A sequence of codes that are none of them 0: it is no reset. -/
theorem seqL_head {l : List Int} (hl : l ≠ []) (hc : ∀ c ∈ l, 0 < c) : ∃ d q, seqL l = 27 :: 91 :: d :: q ∧ d ≠ 48 ∧ (27 : UInt8) ∉ (91 :: d :: q) := by
  obtain ⟨q0, h0, h27, _⟩ := seqL_tail l hl
  cases l with
  | nil => exact absurd rfl hl
  | cons x r =>
    obtain ⟨d, t, h1, h2⟩ := decL_head x.toNat (by have := hc x (by simp); omega)
    have e : seqL (x :: r) = 27 :: 91 :: d :: (t ++ Lib.joinTail [59] (r.map codeL) ++ [109]) := by
      rw [seqL, if_neg (by simp), List.map_cons, Lib.join_cons, show codeL x = d :: t from h1]; simp
    refine ⟨d, _, e, h2, ?_⟩
    rw [e] at h0
    injection h0 with _ h0
    rw [h0]; exact h27
theorem seqL_zero : seqL [0] = RESET := by
  rw [seqL, if_neg (by simp), List.map_cons, List.map_nil, Lib.join_one, show codeL 0 = decL 0 from rfl, decL_small (by omega)]; rfl
theorem seqL_none : seqL [] = [] := by rw [seqL, if_pos rfl]
theorem escPost_no {X : List UInt8} (h : Lib.hasSuffix X RESET = false) : escPost X = RESET := by unfold escPost; rw [h]; rfl

/-- Pieces as the law wants them. -/
structure GoodP (p : Piece) : Prop where
  codes : p.codes = [0] ∨ ∀ c ∈ p.codes, 0 < c ∧ c < 1000
  no27 : (27 : UInt8) ∉ bl p.text
  ne : bl p.text ≠ []
  runes : ∀ r ∈ runes p.text, r ≠ 27 ∧ r ≠ 65533

def writtenL (l : List Piece) : List UInt8 := l.flatMap fun p => seqL p.codes ++ bl p.text
def colP (c : Int) (p : Piece) : List UInt8 := (if p.codes = [0] then RESET ++ seqL [c] else seqL p.codes) ++ bl p.text

theorem replaced (n : List UInt8) : ∀ l : List Piece, (∀ p ∈ l, GoodP p) → replL RESET (RESET ++ n) (writtenL l) = l.flatMap (fun p => (if p.codes = [0] then RESET ++ n else seqL p.codes) ++ bl p.text)
  | [], _ => replL_nil _ _
  | p :: l, h => by
    have hp := h p (by simp)
    have ih := replaced n l fun q hq => h q (by simp [hq])
    unfold writtenL at ih ⊢
    rw [List.flatMap_cons, List.flatMap_cons]
    have htext : replL RESET (RESET ++ n) (bl p.text ++ l.flatMap fun p => seqL p.codes ++ bl p.text) = bl p.text ++ l.flatMap (fun p => (if p.codes = [0] then RESET ++ n else seqL p.codes) ++ bl p.text) := by
      have := replL_no27 [91, 48, 109] (RESET ++ n) (l.flatMap fun p => seqL p.codes ++ bl p.text) (bl p.text) hp.no27
      rw [show (27 : UInt8) :: [91, 48, 109] = RESET from rfl] at this
      rw [this, ih]
    by_cases h0 : p.codes = [0]
    · rw [if_pos h0, h0, seqL_zero, List.append_assoc, List.append_assoc, ← htext]
      have hp2 : RESET.isPrefixOf (27 :: ([91, 48, 109] ++ (bl p.text ++ l.flatMap fun p => seqL p.codes ++ bl p.text))) = true := by
        rw [List.isPrefixOf_iff_prefix]; exact ⟨_, rfl⟩
      have := replL_hit (RESET ++ n) hp2
      rw [show (27 : UInt8) :: ([91, 48, 109] ++ (bl p.text ++ l.flatMap fun p => seqL p.codes ++ bl p.text)) = RESET ++ (bl p.text ++ l.flatMap fun p => seqL p.codes ++ bl p.text) from rfl] at this
      rw [this]
      rfl
    · rw [if_neg h0]
      have hc := hp.codes.resolve_left h0
      by_cases he : p.codes = []
      · rw [he, seqL_none, List.nil_append]; exact htext
      · obtain ⟨d, q, hq, hd, h27⟩ := seqL_head he fun c hcc => (hc c hcc).1
        rw [hq, List.append_assoc, List.append_assoc, ← htext]
        have hm : RESET.isPrefixOf (27 :: ((91 :: d :: q) ++ (bl p.text ++ l.flatMap fun p => seqL p.codes ++ bl p.text))) = false := by
          simp [RESET, List.isPrefixOf]
          exact fun e => absurd e.symm hd
        have h1 := replL_miss (RESET ++ n) hm
        have h2 := replL_no27 [91, 48, 109] (RESET ++ n) (bl p.text ++ l.flatMap fun p => seqL p.codes ++ bl p.text) (91 :: d :: q) h27
        rw [show (27 : UInt8) :: [91, 48, 109] = RESET from rfl] at h2
        rw [h2] at h1
        exact h1

/-- What holds behind each escape. -/
def All27 (S : List UInt8 → Prop) (l : List UInt8) : Prop := ∀ U V, l = U ++ 27 :: V → S V
theorem All27.nil (S : List UInt8 → Prop) : All27 S [] := by intro U V h; simp at h
theorem All27.text {S : List UInt8 → Prop} {r : List UInt8} (hr : All27 S r) : ∀ {t : List UInt8}, (27 : UInt8) ∉ t → All27 S (t ++ r)
  | [], _ => hr
  | x :: t, h => by
    intro U V e
    cases U with
    | nil =>
      simp at e
      exact absurd (by simp [e.1]) h
    | cons u U =>
      simp at e
      exact All27.text hr (fun hh => h (by simp [hh])) U V e.2
theorem All27.seq {S : List UInt8 → Prop} {q r : List UInt8} (hq : (27 : UInt8) ∉ q) (hs : S (q ++ r)) (hr : All27 S r) : All27 S (27 :: (q ++ r)) := by
  intro U V e
  cases U with
  | nil => simp at e; rw [← e]; exact hs
  | cons u U =>
    simp at e
    exact All27.text hr hq U V e.2

theorem all_pieces {S : List UInt8 → Prop} {c : Int} (hc : 0 < c ∧ c < 1000)
    (h1 : ∀ codes : List Int, codes ≠ [] → (∀ x ∈ codes, 0 < x ∧ x < 1000) → ∀ q, seqL codes = 27 :: q → ∀ y R, y ≠ 27 → S (q ++ y :: R))
    (h2 : ∀ y R, y ≠ 27 → S ([91, 48, 109] ++ (seqL [c] ++ y :: R))) (E : List UInt8) (hE : All27 S E) : ∀ l : List Piece, (∀ p ∈ l, GoodP p) → All27 S (l.flatMap (colP c) ++ E)
  | [], _ => hE
  | p :: l, h => by
    have hp := h p (by simp)
    have ih := all_pieces hc h1 h2 E hE l fun q hq => h q (by simp [hq])
    obtain ⟨y, t, ht⟩ : ∃ y t, bl p.text = y :: t := by
      cases hb : bl p.text with
      | nil => exact absurd hb hp.ne
      | cons y t => exact ⟨y, t, rfl⟩
    have hy : y ≠ 27 := fun e => hp.no27 (by rw [ht, e]; simp)
    have htext := All27.text ih hp.no27
    rw [ht, List.cons_append] at htext
    rw [List.flatMap_cons, List.append_assoc]
    unfold colP
    rw [List.append_assoc, ht, List.cons_append]
    have hcc : ∀ x ∈ [c], 0 < x ∧ x < 1000 := by intro x hx; simp at hx; subst hx; exact hc
    by_cases h0 : p.codes = [0]
    · rw [if_pos h0, List.append_assoc]
      obtain ⟨q, hq, hq27, _⟩ := seqL_tail [c] (by simp)
      have a1 : All27 S (seqL [c] ++ y :: (t ++ (l.flatMap (colP c) ++ E))) := by
        rw [hq]; exact All27.seq hq27 (h1 [c] (by simp) hcc q hq y _ hy) htext
      exact All27.seq (q := [91, 48, 109]) (by decide) (h2 y _ hy) a1
    · rw [if_neg h0]
      by_cases he : p.codes = []
      · rw [he, show seqL [] = [] by rw [seqL, if_pos rfl], List.nil_append]; exact htext
      · obtain ⟨q, hq, hq27, _⟩ := seqL_tail p.codes he
        rw [hq]
        exact All27.seq hq27 (h1 p.codes he (hp.codes.resolve_left h0) q hq y _ hy) htext

/-- The first m of two lists. -/
theorem first_m {x y : UInt8} : ∀ {D E R R' : List UInt8}, (109 : UInt8) ∉ D → (109 : UInt8) ∉ E → D ++ 109 :: x :: R = E ++ 109 :: y :: R' → D = E ∧ x = y
  | [], [], _, _, _, _, h => by simp at h; exact ⟨rfl, h.1⟩
  | [], e :: E, _, _, _, hE, h => by simp at h; exact absurd (by simp [h.1]) hE
  | d :: D, [], _, _, hD, _, h => by simp at h; exact absurd (by simp [h.1]) hD
  | d :: D, e :: E, _, _, hD, hE, h => by
    simp at h
    obtain ⟨h1, h2⟩ := first_m (fun hh => hD (by simp [hh])) (fun hh => hE (by simp [hh])) h.2
    exact ⟨by rw [h.1, h1], h2⟩

/-- A sequence's one m. -/
theorem seqL_m (l : List Int) (hl : l ≠ []) (hc : ∀ c ∈ l, 0 ≤ c) : ∃ D, seqL l = 27 :: (D ++ [109]) ∧ (109 : UInt8) ∉ D := by
  refine ⟨91 :: Lib.join (l.map codeL) [59], by rw [seqL, if_neg hl]; simp, ?_⟩
  have key : (109 : UInt8) ∉ Lib.join (l.map codeL) [59] := by
    cases l with
    | nil => exact absurd rfl hl
    | cons x r =>
      intro hb
      rw [List.map_cons, Lib.join_cons, List.mem_append] at hb
      rcases hb with hb | hb
      · have := decL_digits _ _ hb; unfold isDigit at this; revert this; decide
      · unfold Lib.joinTail at hb
        simp only [List.mem_flatten, List.mem_map] at hb
        obtain ⟨_, ⟨_, ⟨y, _, rfl⟩, rfl⟩, hb⟩ := hb
        simp at hb
        have := decL_digits _ _ hb; unfold isDigit at this; revert this; decide
  simp
  exact key

theorem replL_never {p : List UInt8} (n : List UInt8) : ∀ {l : List UInt8}, All27 (fun V => (27 :: p).isPrefixOf (27 :: V) = false) l → replL (27 :: p) n l = l
  | [], _ => replL_nil _ _
  | x :: l, h => by
    have hm : (27 :: p).isPrefixOf (x :: l) = false := by
      by_cases hx : x = 27
      · subst hx; exact h [] l rfl
      · exact prefix_head fun e => hx e.symm
    rw [replL_miss n hm, replL_never n fun U V e => h (x :: U) V (by rw [e]; rfl)]

/-- What pieces look like that get a color. -/
theorem escaped_text {c : Int} (hc : 0 < c ∧ c < 1000) (p : Piece) (l : List Piece) (h : ∀ q ∈ p :: l, GoodP q) :
    esc2 (writtenL (p :: l)) (seqL [c]) = (if p.codes = [] then seqL [c] else []) ++ (p :: l).flatMap (colP c) ++ RESET ∧ escL (writtenL (p :: l)) (seqL [c]) = (if p.codes = [] then seqL [c] else []) ++ (p :: l).flatMap (colP c) ++ RESET := by
  have hp := h p (by simp)
  obtain ⟨y, t, ht⟩ : ∃ y t, bl p.text = y :: t := by
    cases hb : bl p.text with
    | nil => exact absurd hb hp.ne
    | cons y t => exact ⟨y, t, rfl⟩
  have hy : y ≠ 27 := fun e => hp.no27 (by rw [ht, e]; simp)
  have hcc : ∀ x ∈ [c], 0 < x ∧ x < 1000 := by intro x hx; simp at hx; subst hx; exact hc
  obtain ⟨Dc, hDc, hDm⟩ := seqL_m [c] (by simp) (fun x hx => by have := hcc x hx; omega)
  obtain ⟨dc, qc, hqc, hd48, _⟩ := seqL_head (l := [c]) (by simp) (fun x hx => (hcc x hx).1)
  obtain ⟨q, hq, hq27, _⟩ := seqL_tail [c] (by simp)
  have hDq : q = Dc ++ [109] := by rw [hDc] at hq; injection hq with _ hq; exact hq.symm
  have hpre : escPre (writtenL (p :: l)) (seqL [c]) = if p.codes = [] then seqL [c] else [] := by
    unfold escPre writtenL
    rw [List.flatMap_cons]
    by_cases he : p.codes = []
    · rw [if_pos he, he, show seqL [] = [] by rw [seqL, if_pos rfl], List.nil_append, ht, if_neg]
      simp [Lib.hasPrefix, List.isPrefixOf]
      exact fun e => absurd e.symm hy
    · rw [if_neg he, if_pos]
      by_cases h0 : p.codes = [0]
      · rw [h0, seqL_zero]; simp [Lib.hasPrefix, RESET, List.isPrefixOf]
      · obtain ⟨d, r, hr, _⟩ := seqL_head he fun x hx => ((hp.codes.resolve_left h0) x hx).1
        rw [hr]; simp [Lib.hasPrefix, List.isPrefixOf]
  have hrep : replL RESET (RESET ++ seqL [c]) (writtenL (p :: l)) = (p :: l).flatMap (colP c) := replaced (seqL [c]) (p :: l) h
  -- the text ends in a letter of the last piece
  have hP : All27 (fun V => ∃ D x R, V = D ++ 109 :: x :: R ∧ (109 : UInt8) ∉ D) ((if p.codes = [] then seqL [c] else []) ++ (p :: l).flatMap (colP c)) := by
    have hk : ∀ codes : List Int, codes ≠ [] → (∀ x ∈ codes, 0 < x ∧ x < 1000) → ∀ q, seqL codes = 27 :: q → ∀ y R, y ≠ 27 → ∃ D x R', q ++ y :: R = D ++ 109 :: x :: R' ∧ (109 : UInt8) ∉ D := by
      intro codes hn hx q hq y R _
      obtain ⟨D, hD, hm⟩ := seqL_m codes hn (fun x h => by have := hx x h; omega)
      rw [hD] at hq
      injection hq with _ hq
      exact ⟨D, y, R, by rw [← hq]; simp, hm⟩
    have hbody := all_pieces (S := fun V => ∃ D x R, V = D ++ 109 :: x :: R ∧ (109 : UInt8) ∉ D) (E := []) hc hk (fun y R _ => ⟨[91, 48], 27, q ++ y :: R, by rw [hq]; rfl, by decide⟩) (All27.nil _) (p :: l) h
    rw [List.append_nil] at hbody
    split
    · rename_i he
      have hb : (p :: l).flatMap (colP c) = y :: (t ++ l.flatMap (colP c)) := by
        rw [List.flatMap_cons]; unfold colP; rw [he, if_neg (by simp), show seqL [] = [] by rw [seqL, if_pos rfl], List.nil_append, ht]; rfl
      rw [hq]
      refine All27.seq hq27 ?_ hbody
      rw [hb]
      exact hk [c] (by simp) hcc q hq y _ hy
    · exact hbody
  have hsuf : Lib.hasSuffix ((if p.codes = [] then seqL [c] else []) ++ (p :: l).flatMap (colP c)) RESET = false := by
    cases e : Lib.hasSuffix ((if p.codes = [] then seqL [c] else []) ++ (p :: l).flatMap (colP c)) RESET with
    | false => rfl
    | true =>
      exfalso
      unfold Lib.hasSuffix at e
      obtain ⟨U, hU⟩ := List.isSuffixOf_iff_suffix.1 e
      obtain ⟨D, x, R, h1, h2⟩ := hP U [91, 48, 109] hU.symm
      match D, h1, h2 with
      | [], h1, _ => simp at h1
      | [_], h1, _ => simp at h1
      | [_, _], h1, _ => simp at h1
      | a :: b :: d :: D, h1, h2 =>
        simp at h1
  have e1 : esc2 (writtenL (p :: l)) (seqL [c]) = (if p.codes = [] then seqL [c] else []) ++ (p :: l).flatMap (colP c) ++ RESET := by
    rw [esc2, esc1, hpre, hrep, escPost_no hsuf]
  refine ⟨e1, ?_⟩
  rw [escL, e1]
  -- nowhere does the color stand right ahead of a reset
  have hpat : seqL [c] ++ RESET = 27 :: (q ++ RESET) := by rw [hq]; rfl
  rw [hpat]
  apply replL_never
  have hno : ∀ (D : List UInt8) (y : UInt8) (R : List UInt8), (109 : UInt8) ∉ D → (D ≠ Dc ∨ y ≠ 27) → (27 :: (q ++ RESET)).isPrefixOf (27 :: (D ++ 109 :: y :: R)) = false := by
    intro D y R hm hne
    cases e : (27 :: (q ++ RESET)).isPrefixOf (27 :: (D ++ 109 :: y :: R)) with
    | false => rfl
    | true =>
      exfalso
      obtain ⟨r, hr⟩ := List.isPrefixOf_iff_prefix.1 e
      simp only [List.cons_append, List.cons.injEq, true_and] at hr
      rw [hDq, show RESET = 27 :: [91, 48, 109] from rfl] at hr
      have hr2 : Dc ++ 109 :: 27 :: ([91, 48, 109] ++ r) = D ++ 109 :: y :: R := by rw [← hr]; simp
      obtain ⟨h1, h2⟩ := first_m hDm hm hr2
      rcases hne with h | h
      · exact h h1.symm
      · exact h h2.symm
  have hk : ∀ codes : List Int, codes ≠ [] → (∀ x ∈ codes, 0 < x ∧ x < 1000) → ∀ q', seqL codes = 27 :: q' → ∀ y R, y ≠ 27 → (27 :: (q ++ RESET)).isPrefixOf (27 :: (q' ++ y :: R)) = false := by
    intro codes hn hx q' hq' y R hy
    obtain ⟨D, hD, hm⟩ := seqL_m codes hn (fun x h => by have := hx x h; omega)
    rw [hD] at hq'
    injection hq' with _ hq'
    rw [← hq']
    have := hno D y R hm (Or.inr hy)
    simpa using this
  have hD48 : ([91, 48] : List UInt8) ≠ Dc := by
    intro e
    rw [hqc] at hDc
    rw [← e] at hDc
    simp at hDc
    exact hd48 hDc.1
  have hE : All27 (fun V => (27 :: (q ++ RESET)).isPrefixOf (27 :: V) = false) RESET := by
    refine All27.seq (q := [91, 48, 109]) (r := []) (by decide) ?_ (All27.nil _)
    apply short_prefix
    rw [hDq]
    simp [RESET]
  have hbody := all_pieces (S := fun V => (27 :: (q ++ RESET)).isPrefixOf (27 :: V) = false) (E := RESET) hc hk (fun y R _ => by rw [hq]; exact hno [91, 48] 27 _ (by decide) (Or.inl hD48)) hE (p :: l) h
  split
  · rename_i he
    have hb : (p :: l).flatMap (colP c) = y :: (t ++ l.flatMap (colP c)) := by
      rw [List.flatMap_cons]; unfold colP; rw [he, if_neg (by simp), show seqL [] = [] by rw [seqL, if_pos rfl], List.nil_append, ht]; rfl
    rw [List.append_assoc, hq]
    refine All27.seq hq27 ?_ hbody
    rw [hb]
    exact hk [c] (by simp) hcc q hq y _ hy
  · rw [List.nil_append]; exact hbody

theorem sameB_self : ∀ l : List (Int × List Int), sameB l l = true
  | [] => rfl
  | (r, cs) :: l => by simp only [sameB]; rw [sameB_self l, (alike_iff cs cs).2 ⟨fun _ h => h, fun _ h => h⟩]; simp
theorem seqL_bold : seqL [1] = [27, 91, 49, 109] := by
  rw [seqL, if_neg (by simp), List.map_cons, List.map_nil, Lib.join_one, show codeL 1 = decL 1 from rfl, decL_small (by omega)]; rfl
theorem esc_bold : esc2 [97] [27, 91, 49, 109] = [27, 91, 49, 109, 97, 27, 91, 48, 109] ∧ escL [97] [27, 91, 49, 109] = [27, 91, 49, 109, 97, 27, 91, 48, 109] := by
  have := esc_plain [1] (by simp) [97] (by simp) (by decide)
  rw [seqL_bold] at this
  exact this

/-- The cells of pieces that get a color. -/
def escOn (c : Int) (on : List Int) (codes : List Int) : List Int := codes.foldl (fun on x => if x = 0 then [c] else withC on x) on
def escCells (c : Int) : List Piece → List Int → List (Int × List Int)
  | [], _ => []
  | p :: l, on => (runes p.text).map (fun r => (r, escOn c on p.codes)) ++ escCells c l (escOn c on p.codes)
def escFirst (c : Int) : List Piece → List Int
  | [] => []
  | p :: _ => if p.codes = [] then [c] else []

def runesL (l : List UInt8) : List Int := runes ⟨l.toArray⟩
theorem runesL_app (a b : List UInt8) (h : ∀ r ∈ runesL a, r ≠ 65533) : runesL (a ++ b) = runesL a ++ runesL b := by
  have e : (⟨(a ++ b).toArray⟩ : ByteArray) = ⟨a.toArray⟩ ++ ⟨b.toArray⟩ := by apply bl_ext; rw [bl_app, bl_mk, bl_mk, bl_mk]
  unfold runesL
  rw [e, runes_app _ _ h]
theorem runesL_seq (l : List Int) (b : List UInt8) : runesL (seqL l ++ b) = chars (seqL l) ++ runesL b := by
  have h := runes_seq l
  rw [runesL_app, runesL, h]
  rw [runesL, h]
  intro r hr
  obtain ⟨x, hx, rfl⟩ := List.mem_map.1 hr
  have := seqL_ascii l x hx
  omega
theorem runesL_text (s : ByteArray) (b : List UInt8) (h : ∀ r ∈ runes s, r ≠ 65533) : runesL (bl s ++ b) = runes s ++ runesL b := by
  have e : runesL (bl s) = runes s := by unfold runesL; congr 1
  rw [runesL_app, e]
  rw [e]; exact h
theorem fold_nz {c : Int} : ∀ (codes on : List Int), (∀ x ∈ codes, 0 < x) → escOn c on codes = codes.foldl withC on
  | [], _, _ => rfl
  | x :: r, on, h => by
    have hx := h x (by simp)
    have := fold_nz (c := c) r (withC on x) fun y hy => h y (by simp [hy])
    unfold escOn at this ⊢
    rw [List.foldl_cons, List.foldl_cons, if_neg (by omega), this]

theorem read_pieces {c : Int} (hc : 0 < c ∧ c < 1000) : ∀ (l : List Piece) (on : List Int) (cells : List (Int × List Int)), (∀ p ∈ l, GoodP p) → readAll (runesL (l.flatMap (colP c) ++ RESET)) on cells = some (cells ++ escCells c l on, [])
  | [], on, cells, _ => by
    have e : runesL ([].flatMap (colP c) ++ RESET) = chars RESET ++ [] := by
      rw [List.flatMap_nil, List.nil_append, ← seqL_zero]
      have := runes_seq [0]
      rw [List.append_nil]
      exact this
    rw [e, readAll_reset, readAll_nil]
    simp [escCells]
  | p :: l, on, cells, h => by
    have hp := h p (by simp)
    have hr : ∀ r ∈ runes p.text, r ≠ 27 := fun r hr => (hp.runes r hr).1
    have hr2 : ∀ r ∈ runes p.text, r ≠ 65533 := fun r hr => (hp.runes r hr).2
    rw [List.flatMap_cons, escCells]
    unfold colP
    by_cases h0 : p.codes = [0]
    · have ho : escOn c on p.codes = [c] := by rw [h0]; rfl
      have ih := read_pieces hc l [c] (cells ++ (runes p.text).map fun r => (r, [c])) fun q hq => h q (by simp [hq])
      rw [if_pos h0, ho]
      simp only [List.append_assoc]
      rw [← seqL_zero, runesL_seq [0], runesL_seq [c], runesL_text _ _ hr2, seqL_zero, readAll_reset, readAll_seq [c] (by simp) (by intro x hx; simp at hx; subst hx; omega)]
      rw [show [c].foldl withC [] = [c] by show withC [] c = [c]; unfold withC; rw [if_neg (by omega)]; rfl]
      rw [readAll_chars _ _ _ _ hr]
      unfold colP at ih
      rw [ih, List.append_assoc]
    · have hcd := hp.codes.resolve_left h0
      have ho : escOn c on p.codes = p.codes.foldl withC on := fold_nz _ _ fun x hx => (hcd x hx).1
      have ih := read_pieces hc l (p.codes.foldl withC on) (cells ++ (runes p.text).map fun r => (r, p.codes.foldl withC on)) fun q hq => h q (by simp [hq])
      rw [if_neg h0, ho]
      simp only [List.append_assoc]
      rw [runesL_seq, runesL_text _ _ hr2]
      by_cases he : p.codes = []
      · rw [he] at ih ⊢
        rw [show seqL [] = [] by rw [seqL, if_pos rfl]]
        show readAll ([] ++ _) _ _ = _
        rw [List.nil_append, readAll_chars _ _ _ _ hr]
        unfold colP at ih
        rw [show ([] : List Int).foldl withC on = on from rfl] at ih ⊢
        rw [ih, List.append_assoc]
      · rw [readAll_seq p.codes he (fun x hx => ⟨by have := (hcd x hx).1; omega, (hcd x hx).2⟩), readAll_chars _ _ _ _ hr]
        unfold colP at ih
        rw [ih, List.append_assoc]

theorem escaped_nil {c : Int} (hc : 0 < c ∧ c < 1000) : escL (writtenL []) (seqL [c]) = [] := by
  have hcc : ∀ x ∈ [c], 0 < x := by intro x hx; simp at hx; subst hx; exact hc.1
  obtain ⟨d, q, hq, hd, h27⟩ := seqL_head (l := [c]) (by simp) hcc
  have e1 : esc1 (writtenL []) (seqL [c]) = seqL [c] := by
    show escPre [] (seqL [c]) ++ replL RESET _ [] = _
    rw [replL_nil, List.append_nil]; rfl
  have hs : Lib.hasSuffix (seqL [c]) RESET = false := by
    cases e : Lib.hasSuffix (seqL [c]) RESET with
    | false => rfl
    | true =>
      exfalso
      unfold Lib.hasSuffix at e
      obtain ⟨U, hU⟩ := List.isSuffixOf_iff_suffix.1 e
      rw [hq] at hU
      cases U with
      | nil => simp [RESET] at hU; exact hd hU.1.symm
      | cons u U =>
        simp only [List.cons_append, List.cons.injEq] at hU
        exact h27 (by rw [← hU.2]; simp [RESET])
  rw [escL, esc2, e1, escPost_no hs]
  have hpf : (seqL [c] ++ RESET).isPrefixOf (27 :: (91 :: d :: q ++ RESET)) = true := by
    rw [List.isPrefixOf_iff_prefix]; exact ⟨[], by rw [hq]; simp⟩
  have := replL_hit [] hpf
  rw [show (27 : UInt8) :: (91 :: d :: q ++ RESET) = seqL [c] ++ RESET by rw [hq]; rfl] at this
  rw [this, List.drop_of_length_le (by rw [hq]; simp), replL_nil]
  rfl
/-- What is read of the whole. -/
theorem escaped_read {c : Int} (hc : 0 < c ∧ c < 1000) (l : List Piece) (h : ∀ p ∈ l, GoodP p) : readText ⟨(escL (writtenL l) (seqL [c])).toArray⟩ = some (escCells c l (escFirst c l), []) := by
  have hcc : ∀ x ∈ [c], 0 < x := by intro x hx; simp at hx; subst hx; exact hc.1
  cases l with
  | nil =>
    have e0 := escaped_nil hc
    rw [e0]
    show readAll (runesL []) [] [] = _
    have : runesL [] = [] := by
      have := runes_seq []
      rw [show seqL [] = [] by rw [seqL, if_pos rfl]] at this
      exact this
    rw [this, readAll_nil]; rfl
  | cons p l =>
    rw [(escaped_text hc p l h).2, readText]
    show readAll (runesL _) [] [] = _
    unfold escFirst
    by_cases he : p.codes = []
    · simp only [if_pos he]
      rw [List.append_assoc, runesL_seq, readAll_seq [c] (by simp) (by intro x hx; have := hcc x hx; simp at hx; subst hx; omega)]
      rw [show [c].foldl withC [] = [c] by show withC [] c = [c]; unfold withC; rw [if_neg (by omega)]; rfl]
      rw [read_pieces hc (p :: l) [c] [] h, List.nil_append]
    · simp only [if_neg he]
      rw [List.nil_append, read_pieces hc (p :: l) [] [] h, List.nil_append]
end Go.Proofs.YtlclmpiocbkabaaDoor
