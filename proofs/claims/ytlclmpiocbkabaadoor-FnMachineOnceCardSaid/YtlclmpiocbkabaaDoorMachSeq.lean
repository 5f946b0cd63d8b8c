/- Plain laws: what the parser makes of a sequence. -/
import Derived.Test.YtlclmpiocbkabaaDoorMachPlain
import Derived.Test.YtlclmpiocbkabaaDoorPaintPlain
namespace Go.Proofs.YtlclmpiocbkabaaDoor
open Go.RowKit
set_option linter.unusedVariables false

theorem enc_ascii {b : UInt8} (h : b.toNat < 128) : Lib.encodeRune (b.toNat : Int) = [b] := by
  have : ∀ i : Fin 128, Lib.encodeRune ((i.val : Nat) : Int) = [UInt8.ofNat i.val] := by decide
  have e := this ⟨b.toNat, h⟩
  simp only at e
  rw [e]
  simp

/-! ### the machine over a sequence -/
theorem mid_step {codes : List Int} {buf : List UInt8} {c : UInt8} (hc : c.toNat < 128) (hm : c ≠ 109) (hb : buf.length < 2048) (ho : OSI8.isPrefixOf (buf ++ [c]) = false) :
    consume ⟨codes, true, 1, buf⟩ (c.toNat : Int) = ⟨codes, true, 1, buf ++ [c]⟩ := by
  have hb1 : begun ⟨codes, true, 1, buf⟩ (c.toNat : Int) = ⟨codes, true, 1, buf⟩ := by
    unfold begun
    rw [if_neg (by simp), if_neg (by simp)]
  have hm' : ¬ ((c.toNat : Int) = 109) := by
    intro e
    exact hm (UInt8.toNat_inj.1 (by simp; omega))
  unfold consume
  rw [hb1, if_pos rfl]
  unfold grownP closeP stopB
  dsimp only
  rw [enc_ascii hc, if_neg (by rw [List.length_append]; simp; omega), if_neg (by simp), if_neg (by rw [ho]; simp [hm'])]
theorem mid_all (codes : List Int) : ∀ (d buf : List UInt8), (∀ c ∈ d, c.toNat < 128 ∧ c ≠ 109) → buf.length + d.length ≤ 2048 → [27, 91] <+: buf → consumeAll ⟨codes, true, 1, buf⟩ (chars d) = ⟨codes, true, 1, buf ++ d⟩
  | [], buf, _, _, _ => by rw [List.append_nil]; rfl
  | c :: d, buf, h, hl, hp => by
    have hc := h c (by simp)
    rw [List.length_cons] at hl
    have ho : OSI8.isPrefixOf (buf ++ [c]) = false := by
      obtain ⟨t, rfl⟩ := hp
      simp [OSI8, List.isPrefixOf]
    show consumeAll (consume ⟨codes, true, 1, buf⟩ (c.toNat : Int)) (chars d) = _
    rw [mid_step hc.1 hc.2 (by omega) ho, mid_all codes d (buf ++ [c]) (fun x hx => h x (by simp [hx])) (by rw [List.length_append]; simp; omega) (by
      obtain ⟨t, rfl⟩ := hp; exact ⟨t ++ [c], by simp⟩)]
    simp
theorem begin_seq {p : PS} (h : p.inE = false) : consumeAll p [27, 91] = ⟨p.codes, true, 1, [27, 91]⟩ := by
  obtain ⟨codes, inE, kind, buf⟩ := p
  simp only at h
  subst h
  rfl
theorem seq_open {p : PS} (h : p.inE = false) {d : List UInt8} (hd : ∀ c ∈ d, c.toNat < 128 ∧ c ≠ 109) (hl : d.length ≤ 2000) : consumeAll p (chars ([27, 91] ++ d)) = ⟨p.codes, true, 1, [27, 91] ++ d⟩ := by
  rw [chars_append]
  show (chars [27, 91] ++ chars d).foldl consume p = _
  rw [List.foldl_append]
  have e := begin_seq h
  rw [show chars [27, 91] = [27, 91] by decide]
  unfold consumeAll at e
  rw [e]
  exact mid_all p.codes d [27, 91] hd (by simp; omega) (List.prefix_refl _)
theorem seq_done {p : PS} (h : p.inE = false) {d : List UInt8} (hd : ∀ c ∈ d, c.toNat < 128 ∧ c ≠ 109) (hl : d.length ≤ 2000) :
    consumeAll p (chars ([27, 91] ++ d ++ [109])) = ⟨parseSeq p.codes ⟨([27, 91] ++ d ++ [109]).toArray⟩ 1, false, 0, []⟩ := by
  rw [chars_append]
  show (chars ([27, 91] ++ d) ++ chars [109]).foldl consume p = _
  rw [List.foldl_append]
  have e := seq_open h hd hl
  unfold consumeAll at e
  rw [e, show chars [109] = [109] by decide]
  show consume ⟨p.codes, true, 1, [27, 91] ++ d⟩ 109 = _
  have hb1 : begun ⟨p.codes, true, 1, [27, 91] ++ d⟩ 109 = ⟨p.codes, true, 1, [27, 91] ++ d⟩ := by
    unfold begun
    rw [if_neg (by simp), if_neg (by simp)]
  have ho : OSI8.isPrefixOf ([27, 91] ++ d ++ [109]) = false := by simp [OSI8, List.isPrefixOf]
  unfold consume
  rw [hb1, if_pos rfl]
  unfold grownP closeP stopB
  dsimp only
  rw [show Lib.encodeRune 109 = [109] by decide, if_neg (by simp; omega), if_neg (by simp), if_pos (by rw [ho]; simp)]
  rfl

/-! ### the codes of a sequence -/
theorem preX {x b : UInt8} (h : b ≠ x) (l : List UInt8) : ([x] : List UInt8).isPrefixOf (b :: l) = false := by
  have : (x == b) = false := by rw [beq_eq_false_iff_ne]; exact fun e => h e.symm
  simp [List.isPrefixOf, this]
theorem splitX_hit (x : UInt8) (l : List UInt8) : splitL [x] (x :: l) = [] :: splitL [x] l := by
  rw [splitL_hit (by simp [List.isPrefixOf])]; rfl
theorem splitX_pre {x : UInt8} : ∀ (e l : List UInt8), (∀ b ∈ e, b ≠ x) → splitL [x] (e ++ x :: l) = e :: splitL [x] l
  | [], l, _ => by rw [List.nil_append, splitX_hit]
  | b :: e, l, h => by
    rw [List.cons_append, splitL_miss (preX (h b (by simp)) _), splitX_pre e l (fun y hy => h y (by simp [hy]))]
theorem splitX_none {x : UInt8} : ∀ (e : List UInt8), (∀ b ∈ e, b ≠ x) → splitL [x] e = [e]
  | [], _ => splitL_nil _
  | b :: e, h => by
    rw [splitL_miss (preX (h b (by simp)) _), splitX_none e (fun y hy => h y (by simp [hy]))]
theorem splitX_join {x : UInt8} : ∀ (h : List UInt8) (r : List (List UInt8)), (∀ e ∈ h :: r, ∀ b ∈ e, b ≠ x) → splitL [x] (Lib.join (h :: r) [x]) = h :: r
  | h, [], hr => by
    rw [show Lib.join [h] [x] = h by rw [Lib.join_cons]; simp [Lib.joinTail]]
    exact splitX_none h (hr h (by simp))
  | h, g :: r, hr => by
    have ih := splitX_join g r (fun e he => hr e (by simp [he]))
    rw [Lib.join_cons] at ih ⊢
    rw [show Lib.joinTail [x] (g :: r) = x :: (g ++ Lib.joinTail [x] r) by simp [Lib.joinTail]]
    rw [splitX_pre h _ (hr h (by simp)), ih]

theorem cut_front (p t : ByteArray) (hp : 0 < p.size) : cutOne (p ++ t) p = t := by
  have hz : zfind (p ++ t) p 0 = 0 := by
    refine zfind_hit (k := 0) (by rw [size_app]; omega) ?_
    rw [eqAt_iff (by rw [size_app]; omega), bl_app]
    rw [List.drop_zero, List.isPrefixOf_iff_prefix]
    exact List.prefix_append _ _
  unfold cutOne
  rw [hz, if_neg (by omega)]
  apply bl_ext
  rw [bl_app]
  have e2 := Lib.extract_to_end (p ++ t) ((0 : Int).toNat + p.size)
  rw [show bl ((p ++ t).extract ((0 : Int).toNat + p.size) (p ++ t).size) = (bl (p ++ t)).drop ((0 : Int).toNat + p.size) from e2]
  have e1 : bl ((p ++ t).extract 0 (0 : Int).toNat) = [] := by rw [bl, Lib.extract_data]; simp
  rw [e1, bl_app, List.nil_append, show (0 : Int).toNat + p.size = (bl p).length by rw [bl_size]; simp, List.drop_left]
theorem cut_end (t : ByteArray) (x : UInt8) (hx : x ∉ bl t) : cutOne (t ++ ⟨#[x]⟩) ⟨#[x]⟩ = t := by
  have hbx : bl (⟨#[x]⟩ : ByteArray) = [x] := rfl
  have hsz : (t ++ (⟨#[x]⟩ : ByteArray)).size = t.size + 1 := by rw [size_app]; rfl
  have hne : ∀ b ∈ bl t, b ≠ x := fun b hb e => hx (e ▸ hb)
  have hsp := zfind_spec (t ++ ⟨#[x]⟩) ⟨#[x]⟩ [] (by exact Nat.zero_lt_one) 0 (Nat.zero_le _)
  rw [hbx, List.drop_zero, bl_app, hbx, splitX_pre (bl t) [] hne, splitL_nil] at hsp
  rcases hsp with ⟨_, _, h⟩ | ⟨i, hz, _, hi, _, h⟩
  · simp at h
  · rw [Nat.sub_zero] at h
    have h1 := (List.cons.inj h).1
    have hil : i = t.size := by
      have := congrArg List.length h1
      rw [List.length_take, List.length_append] at this
      have hb := bl_size t
      have h3 : (⟨#[x]⟩ : ByteArray).size = 1 := rfl
      simp at this
      omega
    unfold cutOne
    rw [hz, if_neg (by omega)]
    apply bl_ext
    rw [bl_app]
    have e2 := Lib.extract_to_end (t ++ (⟨#[x]⟩ : ByteArray)) ((i : Int).toNat + (⟨#[x]⟩ : ByteArray).size)
    rw [show bl ((t ++ (⟨#[x]⟩ : ByteArray)).extract ((i : Int).toNat + (⟨#[x]⟩ : ByteArray).size) (t ++ (⟨#[x]⟩ : ByteArray)).size) = (bl (t ++ ⟨#[x]⟩)).drop ((i : Int).toNat + (⟨#[x]⟩ : ByteArray).size) from e2]
    have e1 : bl ((t ++ (⟨#[x]⟩ : ByteArray)).extract 0 (i : Int).toNat) = (bl (t ++ ⟨#[x]⟩)).take i := by rw [bl, Lib.extract_data]; simp
    rw [e1, bl_app, hbx, ← h1, List.drop_of_length_le (by rw [List.length_append, bl_size]; show t.size + 1 ≤ _; rw [hil]; exact Nat.le_refl _), List.append_nil]
theorem strip_seq {d : List UInt8} (hd : (109 : UInt8) ∉ d) : stripE 1 ⟨([27, 91] ++ d ++ [109]).toArray⟩ = ⟨d.toArray⟩ := by
  unfold stripE
  rw [if_neg (by decide)]
  have e1 : (⟨([27, 91] ++ d ++ [109]).toArray⟩ : ByteArray) = ⟨#[27, 91]⟩ ++ (⟨d.toArray⟩ ++ ⟨#[109]⟩) := by
    apply bl_ext
    rw [bl_app, bl_app, bl_mk, bl_mk]
    show [27, 91] ++ d ++ [109] = [27, 91] ++ (d ++ [109])
    simp
  rw [e1, cut_front _ _ (by decide)]
  exact cut_end ⟨d.toArray⟩ 109 hd

/-! ### numbers -/
theorem num_app : ∀ (l t : List UInt8) (k : Nat), numL k (l ++ t) = match numL k l with | .ok m => numL m t | .range => .range | .noNum => .noNum
  | [], t, k => rfl
  | b :: l, t, k => by
    rw [List.cons_append, numL, numL]
    split
    · split
      · rfl
      · exact num_app l t _
    · rfl
theorem digit_ofNat {j : Nat} (h : j < 10) : (UInt8.ofNat (48 + j)).toNat = 48 + j := by
  have : ∀ i : Fin 10, (UInt8.ofNat (48 + i.val)).toNat = 48 + i.val := by decide
  exact this ⟨j, h⟩
theorem num_digit {m j : Nat} (h : j < 10) (hm : m < 1000000) : numL m [UInt8.ofNat (48 + j)] = .ok (m * 10 + j) := by
  have e := digit_ofNat h
  rw [numL, if_pos (by unfold digitB; rw [e]; simp; omega), e, if_neg (by omega), numL]
  congr 1
  omega
theorem num_dec (n : Nat) (hn : n < 1000000) : numL 0 (decL n) = .ok n := by
  by_cases h : n < 10
  · rw [decL_small h, num_digit h (by omega)]; simp
  · rw [decL_big h, num_app, num_dec (n / 10) (by omega)]
    dsimp only
    rw [num_digit (Nat.mod_lt _ (by omega)) (by omega)]
    congr 1
    omega
termination_by n
decreasing_by omega
theorem dec_cons (n : Nat) : ∃ b t, decL n = b :: t ∧ isDigit b := by
  have := decL_digits n
  cases h : decL n with
  | nil =>
    exfalso
    by_cases h1 : n < 10
    · rw [decL_small h1] at h; cases h
    · rw [decL_big h1] at h
      have := congrArg List.length h
      simp at this
  | cons b t => exact ⟨b, t, rfl, this b (by rw [h]; simp)⟩
theorem atoi_dec (n : Nat) (hn : n < 1000000) : atoiL (decL n) = some (n : Int) := by
  obtain ⟨b, t, hb, hd⟩ := dec_cons n
  have key : ∀ x : UInt8, (x.toNat < 48 ∨ 57 < x.toNat) → b ≠ x := by
    rintro x hx rfl
    unfold isDigit at hd
    omega
  rw [hb, atoiL, if_neg (by intro e; exact e.elim (key 45 (by decide)) (key 43 (by decide))), ← hb, uintL, if_neg (by rw [hb]; simp), num_dec n hn]
  dsimp only
  rw [if_neg (key 45 (by decide)), if_neg (by omega)]
end Go.Proofs.YtlclmpiocbkabaaDoor
