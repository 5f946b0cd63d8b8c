/- Plain laws: the parser's codes fit 64 bits; its buffer stays short.
   Plain laws: what the parser knows behind sequences that do one thing each; its own sequence, read again.
   Plain laws: the sequence that a parser tells, read by a new parser. -/
import Derived.Test.YtlclmpiocbkabaaGreatDoorMachSize
import Derived.Test.YtlclmpiocbkabaaGreatDoorParser2
import Derived.Test.YtlclmpiocbkabaaGreatDoorItoaBig
import Derived.Test.YtlclmpiocbkabaaGreatDoorMachSeq
import Derived.Test.YtlclmpiocbkabaaGreatDoorPrint
import Derived.Lib.TrimAscii
import Derived.Test.YtlclmpiocbkabaaGreatDoorParser8
namespace Go.Proofs.YtlclmpiocbkabaaGreatDoor
open Go.RowKit
set_option linter.unusedVariables false

def All64 (l : List Int) : Prop := ∀ c ∈ l, In64 c
theorem All64.filter {l : List Int} (h : All64 l) (p : Int → Bool) : All64 (l.filter p) := fun c hc => h c (List.mem_filter.1 hc).1
theorem All64.ins {l : List Int} (h : All64 l) {x : Int} (hx : In64 x) : All64 (insC x l) := fun c hc => by
  rcases mem_insC.1 hc with rfl | hc
  · exact hx
  · exact h c hc
theorem All64.std {l : List Int} (h : All64 l) (fg : Bool) : All64 (clearStd fg l) := by unfold clearStd; split <;> exact (h.filter _).filter _
theorem All64.all {l : List Int} (h : All64 l) (fg : Bool) : All64 (clearAll fg l) := by unfold clearAll; split <;> exact (h.std _).filter _
theorem All64.code {l : List Int} (h : All64 l) {c : Int} (hc : In64 c) : All64 (procCode c l) := by
  unfold procCode
  repeat' split
  · exact fun x hx => by simp at hx
  · exact (h.filter _).filter _
  · exact h.filter _
  · exact h.filter _
  · exact (h.filter _).filter _
  · exact h.filter _
  · exact h.filter _
  · exact h.all _
  · exact h.all _
  · exact h.ins hc
  · exact h
theorem in64_proc256 (cs : List (List UInt8)) : ∀ (f i : Nat) (st : List Int × List Int), All64 st.1 → All64 (proc256 cs f i st).1
  | 0, _, _, h => h
  | f + 1, i, st, h => by
    rw [proc256]
    split
    · split
      · next v b e =>
        have hr := p256_range e
        refine in64_proc256 cs f _ _ (All64.std ?_ _)
        refine (h.ins ?_).filter _
        unfold In64
        omega
      · exact in64_proc256 cs f _ _ h
    · exact h
theorem in64_procReg (idx : List Int) : ∀ (cs : List (List UInt8)) (i : Nat) (l : List Int), All64 l → All64 (procReg idx i cs l)
  | [], _, _, h => h
  | c :: r, i, l, h => by
    rw [procReg]
    refine in64_procReg idx r (i + 1) _ ?_
    split
    · exact h
    · split
      · exact h
      · next n e => exact h.code (atoi_range e)
theorem All64.parse {l : List Int} (h : All64 l) (s : ByteArray) (kind : Int) : All64 (parseSeq l s kind) := in64_procReg _ _ _ _ (in64_proc256 _ _ _ _ h)
theorem begun_codes (p : PS) (r : Int) : (begun p r).codes = p.codes := by
  unfold begun
  repeat' split
  all_goals rfl
theorem in64_consume {p : PS} (h : All64 p.codes) (r : Int) : All64 (consume p r).codes := by
  have hb : All64 (begun p r).codes := by rw [begun_codes]; exact h
  unfold consume
  split
  · unfold closeP
    repeat' split
    · exact hb
    · exact hb.parse _ _
    · exact hb.parse _ _
    · exact hb
  · exact hb
theorem in64_all : ∀ (rs : List Int) {p : PS}, All64 p.codes → All64 (consumeAll p rs).codes
  | [], _, h => h
  | r :: rs, p, h => in64_all rs (in64_consume h r)
theorem buf_consume {p : PS} (h : p.buf.length ≤ 2048) (r : Int) : (consume p r).buf.length ≤ 2048 := by
  have h1 := (weight_begun p r).2
  unfold consume
  split
  · unfold closeP
    repeat' split
    · exact Nat.zero_le _
    · exact Nat.zero_le _
    · exact Nat.zero_le _
    · omega
  · omega

/-- What a parser may be ahead of a character. -/
structure Fine (n : Nat) (s : PS) : Prop where
  rising : Rising s.codes
  wide : All64 s.codes
  few : weight s ≤ n
  buf : s.buf.length ≤ 2048
theorem Fine.start : Fine 0 fresh := ⟨List.Pairwise.nil, fun c hc => (by simp [fresh] at hc), by simp [weight, fresh], by simp [fresh]⟩
theorem Fine.step {n : Nat} {s : PS} (h : Fine n s) (r : Int) : Fine (n + 10) (consume s r) :=
  ⟨rising_consume h.rising r, in64_consume h.wide r, by have := (weight_consume s r).1; have := h.few; omega, buf_consume h.buf r⟩
theorem Fine.all {s : PS} : ∀ (rs : List Int) {n : Nat} {s : PS}, Fine n s → Fine (n + 10 * rs.length) (consumeAll s rs)
  | [], _, _, h => h
  | r :: rs, n, s, h => by
    have := Fine.all (s := s) rs (h.step r)
    rw [List.length_cons, show n + 10 * (rs.length + 1) = n + 10 + 10 * rs.length by omega]
    exact this
theorem Fine.more {n m : Nat} {s : PS} (h : Fine n s) (hm : n ≤ m) : Fine m s := ⟨h.rising, h.wide, Nat.le_trans h.few hm, h.buf⟩
end Go.Proofs.YtlclmpiocbkabaaGreatDoor
namespace Go.Proofs.YtlclmpiocbkabaaGreatDoor
open Go.RowKit
set_option linter.unusedVariables false

/-! ### the text of one sequence, split -/
theorem digit_sp {b : UInt8} (h : isDigit b) : Lib.isSp b = false ∧ b.toNat < 128 := by
  have key : ∀ i : Fin 10, Lib.isSp (UInt8.ofNat (48 + i.val)) = false := by decide
  unfold isDigit at h
  have := key ⟨b.toNat - 48, by omega⟩
  simp only at this
  rw [show 48 + (b.toNat - 48) = b.toNat by omega, UInt8.ofNat_toNat] at this
  exact ⟨this, by omega⟩
theorem trim_digits {l : List UInt8} (h : ∀ b ∈ l, isDigit b) : Lib.trimSpaceD l = l := by
  unfold Lib.trimSpaceD
  have h1 : Lib.trimLeftD l.length l = l := by
    cases l with
    | nil => rfl
    | cons b t =>
      have hb := digit_sp (h b (by simp))
      exact Lib.left_stop t.length b t hb.1 hb.2
  rw [h1]
  rcases List.eq_nil_or_concat l with rfl | ⟨t, b, rfl⟩
  · rfl
  · rw [List.concat_eq_append] at h ⊢
    have hb := digit_sp (h b (by simp))
    rw [List.length_append]
    exact Lib.right_stop t.length t b hb.1 hb.2
def numsT (ns : List Nat) : List UInt8 := Lib.join (ns.map decL) [59]
theorem numsT_cons (n : Nat) (ns : List Nat) : numsT (n :: ns) = decL n ++ Lib.joinTail [59] (ns.map decL) := by unfold numsT; rw [List.map_cons, Lib.join_cons]
theorem numsT_ok : ∀ (ns : List Nat), ∀ b ∈ numsT ns, b.toNat < 128 ∧ b ≠ 109 := by
  intro ns b hb
  have key : ∀ n, ∀ b ∈ decL n, b.toNat < 128 ∧ b ≠ 109 := fun n b hb => by
    have := decL_digits n b hb
    unfold isDigit at this
    refine ⟨by omega, ?_⟩
    rintro rfl
    exact absurd this.2 (by decide)
  cases ns with
  | nil => simp [numsT, Lib.join_nil] at hb
  | cons n ns =>
    rw [numsT_cons, List.mem_append] at hb
    rcases hb with hb | hb
    · exact key n b hb
    · unfold Lib.joinTail at hb
      rw [List.mem_flatten] at hb
      obtain ⟨x, hx, hbx⟩ := hb
      rw [List.mem_map] at hx
      obtain ⟨y, hy, rfl⟩ := hx
      rw [List.mem_map] at hy
      obtain ⟨m, _, rfl⟩ := hy
      rw [List.mem_append] at hbx
      rcases hbx with hbx | hbx
      · simp at hbx
        subst hbx
        decide
      · exact key m b hbx
theorem codes_nums (n : Nat) (ns : List Nat) : codesOf ⟨(numsT (n :: ns)).toArray⟩ = (n :: ns).map decL := by
  unfold codesOf numsT
  rw [bl_mk, List.map_cons, splitX_join (decL n) (ns.map decL) ?_]
  · rw [← List.map_cons, List.map_map]
    apply List.map_congr_left
    intro m _
    exact trim_digits (decL_digits m)
  · intro e he b hb
    rw [← List.map_cons, List.mem_map] at he
    obtain ⟨m, _, rfl⟩ := he
    have := decL_digits m b hb
    unfold isDigit at this
    rintro rfl
    exact absurd this.2 (by decide)
def parseNums (codes : List Int) (ns : List Nat) : List Int :=
  procReg (proc256 (ns.map decL) ns.length 0 (codes, [])).2 0 (ns.map decL) (proc256 (ns.map decL) ns.length 0 (codes, [])).1
theorem parse_nums (codes : List Int) (n : Nat) (ns : List Nat) : parseSeq codes ⟨([27, 91] ++ numsT (n :: ns) ++ [109]).toArray⟩ 1 = parseNums codes (n :: ns) := by
  unfold parseSeq parseNums
  dsimp only
  rw [strip_seq (fun h => (numsT_ok (n :: ns) 109 h).2 rfl), codes_nums, List.length_map]
theorem seq_nums {p : PS} (h : p.inE = false) (n : Nat) (ns : List Nat) (hl : (numsT (n :: ns)).length ≤ 2000) :
    consumeAll p (chars ([27, 91] ++ numsT (n :: ns) ++ [109])) = ⟨parseNums p.codes (n :: ns), false, 0, []⟩ := by
  rw [seq_done h (numsT_ok _) hl, parse_nums]

/-! ### colors of 256 -/
theorem p256_not {cs : List (List UInt8)} {i a : Nat} (h : cs[i]? = some (decL a)) (ha : a < 1000000) (h38 : a ≠ 38) (h48 : a ≠ 48) : p256 cs i = none := by
  unfold p256
  rw [h]
  split
  · next x y z h0 h1 h2 =>
    injection h0 with h0
    subst h0
    rw [atoi_dec a ha]
    dsimp only
    rw [if_neg (by omega)]
  · rfl
theorem p256_yes {cs : List (List UInt8)} {i a v : Nat} (h0 : cs[i]? = some (decL a)) (h1 : cs[i + 1]? = some (decL 5)) (h2 : cs[i + 2]? = some (decL v)) (ha : a = 38 ∨ a = 48) (hv : v ≤ 255) : p256 cs i = some ((v : Int), if (a : Int) = 38 then 1000 else 2000) := by
  unfold p256
  rw [h0, h1, h2]
  dsimp only
  rw [atoi_dec a (by omega)]
  dsimp only
  rw [if_pos (by omega), atoi_dec 5 (by omega)]
  dsimp only
  rw [if_pos (by omega), atoi_dec v (by omega)]
  dsimp only
  rw [if_pos (by omega)]
theorem nums_one (codes : List Int) (n : Nat) (hn : n < 1000000) : parseNums codes [n] = procCode n codes := by
  have e : p256 ([n].map decL) 0 = none := by
    unfold p256
    simp
  unfold parseNums
  rw [show ([n] : List Nat).length = 0 + 1 from rfl, proc256_none (by simp) e, proc256]
  show procReg [] 0 [decL n] codes = _
  rw [procReg, procReg, if_neg (by simp), atoi_dec n hn]
theorem nums_256 (codes : List Int) (a v : Nat) (ha : a = 38 ∨ a = 48) (hv : v ≤ 255) : parseNums codes [a, 5, v] = clearStd (decide (a = 38)) (set256 (if (a : Int) = 38 then 1000 else 2000) v codes) := by
  have e : p256 ([a, 5, v].map decL) 0 = some ((v : Int), if (a : Int) = 38 then 1000 else 2000) := p256_yes (a := a) (v := v) rfl rfl rfl ha hv
  have e2 : proc256 ([a, 5, v].map decL) 3 0 (codes, []) = (clearStd (decide (a = 38)) (set256 (if (a : Int) = 38 then 1000 else 2000) v codes), insC 2 (insC 1 (insC 0 []))) := by
    rw [proc256_some (by simp) e, proc256_done (by simp)]
    dsimp only
    have : decide ((if (a : Int) = 38 then (1000 : Int) else 2000) = 1000) = decide (a = 38) := by
      rcases ha with rfl | rfl <;> rfl
    rw [this]
    rfl
  have hm : ∀ j : Int, (j = 0 ∨ j = 1 ∨ j = 2) → j ∈ insC 2 (insC 1 (insC 0 [])) := by
    intro j hj
    rw [mem_insC, mem_insC, mem_insC]
    rcases hj with rfl | rfl | rfl <;> simp
  unfold parseNums
  rw [show ([a, 5, v] : List Nat).length = 3 from rfl, e2]
  show procReg _ 0 [decL a, decL 5, decL v] _ = _
  rw [procReg, if_pos (hm _ (by simp)), procReg, if_pos (hm _ (by simp)), procReg, if_pos (hm _ (by simp)), procReg]

/-! ### what a sequence does -/
structure Op where
  kind : Int
  n : Int
def offCodeB (n : Int) : Bool := (decide (22 ≤ n) && decide (n ≤ 25)) || decide (n = 27) || decide (n = 29) || decide (n = 39) || decide (n = 49)
def opRightB (o : Op) : Bool := if o.kind = 0 then attrB o.n else if o.kind = 1 then true else if o.kind = 2 then offCodeB o.n else if o.kind = 3 ∨ o.kind = 4 then (decide (0 ≤ o.n) && decide (o.n ≤ 255)) else false
def opSeq (o : Op) : List UInt8 := if o.kind = 1 then RESET else if o.kind = 3 then [27, 91, 51, 56, 59, 53, 59] ++ codeL o.n ++ [109] else if o.kind = 4 then [27, 91, 52, 56, 59, 53, 59] ++ codeL o.n ++ [109] else [27, 91] ++ codeL o.n ++ [109]
def offB (off c : Int) : Bool :=
  if off = 22 then decide (c = 1) || decide (c = 2) else
  if off = 23 ∨ off = 24 ∨ off = 27 ∨ off = 29 then decide (c = off - 20) else
  if off = 25 then decide (c = 5) || decide (c = 6) else
  if off = 39 then (decide (30 ≤ c) && decide (c ≤ 37)) || (decide (90 ≤ c) && decide (c ≤ 97)) else
  if off = 49 then (decide (40 ≤ c) && decide (c ≤ 47)) || (decide (100 ≤ c) && decide (c ≤ 107)) else false
def afterOp (on : List Int) (o : Op) : List Int := if o.kind = 0 then withC on o.n else if o.kind = 1 then [] else if o.kind = 2 then on.filter (fun c => !offB o.n c) else on
def afterL (l : List Op) : List Int := l.foldl afterOp []
def opsT (l : List Op) : List UInt8 := l.flatMap opSeq
def opP (codes : List Int) (o : Op) : List Int :=
  if o.kind = 0 then insC o.n codes else if o.kind = 1 then [] else if o.kind = 2 then procCode o.n codes
  else if o.kind = 3 then clearStd true (set256 1000 o.n codes) else clearStd false (set256 2000 o.n codes)

theorem opRight_cases {o : Op} (h : opRightB o = true) : (o.kind = 0 ∧ attrB o.n = true) ∨ o.kind = 1 ∨ (o.kind = 2 ∧ offCodeB o.n = true) ∨ (o.kind = 3 ∧ 0 ≤ o.n ∧ o.n ≤ 255) ∨ (o.kind = 4 ∧ 0 ≤ o.n ∧ o.n ≤ 255) := by
  unfold opRightB at h
  split at h
  · exact Or.inl ⟨by assumption, h⟩
  · split at h
    · exact Or.inr (Or.inl (by assumption))
    · split at h
      · exact Or.inr (Or.inr (Or.inl ⟨by assumption, h⟩))
      · split at h
        · next hk =>
          simp at h
          rcases hk with hk | hk
          · exact Or.inr (Or.inr (Or.inr (Or.inl ⟨hk, h⟩)))
          · exact Or.inr (Or.inr (Or.inr (Or.inr ⟨hk, h⟩)))
        · cases h
theorem off_range {n : Int} (h : offCodeB n = true) : 22 ≤ n ∧ n ≤ 49 := by
  unfold offCodeB at h
  simp at h
  omega
theorem attr_cases {c : Int} (h : attrB c = true) : (1 ≤ c ∧ c ≤ 9) ∨ (30 ≤ c ∧ c ≤ 37) ∨ (40 ≤ c ∧ c ≤ 47) ∨ (90 ≤ c ∧ c ≤ 97) ∨ (100 ≤ c ∧ c ≤ 107) := by
  unfold attrB at h
  simp at h
  omega
theorem op_range {o : Op} (h : opRightB o = true) : o.kind = 1 ∨ (0 ≤ o.n ∧ o.n < 1000) := by
  rcases opRight_cases h with ⟨_, h⟩ | h | ⟨_, h⟩ | h | h
  · exact Or.inr (by have := attr_range h; omega)
  · exact Or.inl h
  · exact Or.inr (by have := off_range h; omega)
  · exact Or.inr (by omega)
  · exact Or.inr (by omega)
theorem codeL_len {c : Int} (h : 0 ≤ c ∧ c < 1000) : (codeL c).length ≤ 4 := decL_len c.toNat (by omega)
theorem opSeq_len {o : Op} (h : opRightB o = true) : (opSeq o).length ≤ 12 := by
  have hr := op_range h
  unfold opSeq
  split
  · decide
  · have := codeL_len (c := o.n) (by omega)
    repeat' split
    all_goals (simp only [List.length_append, List.length_cons, List.length_nil]; omega)
theorem code_ascii (c : Int) : ∀ b ∈ codeL c, b.toNat < 128 := fun b hb => by
  have := decL_digits c.toNat b hb
  unfold isDigit at this
  omega
theorem opSeq_ascii (o : Op) : ∀ b ∈ opSeq o, b.toNat < 128 := by
  intro b hb
  have hc := code_ascii o.n b
  unfold opSeq at hb
  split at hb
  · clear hc; revert hb; revert b; decide
  · split at hb
    · simp only [List.mem_append, List.mem_cons, List.not_mem_nil, or_false] at hb
      rcases hb with (hb | hb) | hb
      · rcases hb with rfl | rfl | rfl | rfl | rfl | rfl | rfl <;> decide
      · exact hc hb
      · subst hb; decide
    · split at hb
      · simp only [List.mem_append, List.mem_cons, List.not_mem_nil, or_false] at hb
        rcases hb with (hb | hb) | hb
        · rcases hb with rfl | rfl | rfl | rfl | rfl | rfl | rfl <;> decide
        · exact hc hb
        · subst hb; decide
      · simp only [List.mem_append, List.mem_cons, List.not_mem_nil, or_false] at hb
        rcases hb with (hb | hb) | hb
        · rcases hb with rfl | rfl <;> decide
        · exact hc hb
        · subst hb; decide
theorem opsT_ascii (l : List Op) : ∀ b ∈ opsT l, b.toNat < 128 := by
  intro b hb
  unfold opsT at hb
  rw [List.mem_flatMap] at hb
  obtain ⟨o, _, hb⟩ := hb
  exact opSeq_ascii o b hb
theorem opsT_len : ∀ {l : List Op}, (∀ o ∈ l, opRightB o = true) → (opsT l).length ≤ 12 * l.length
  | [], _ => by simp [opsT]
  | o :: l, h => by
    have h1 := opSeq_len (h o (by simp))
    have h2 := opsT_len (l := l) fun x hx => h x (by simp [hx])
    show (opSeq o ++ opsT l).length ≤ _
    rw [List.length_append, List.length_cons]
    omega
theorem procCode_attr {c : Int} (h : attrB c = true) (codes : List Int) : procCode c codes = insC c codes := by
  have := attr_cases h
  unfold procCode
  rw [if_neg (by omega), if_neg (by omega), if_neg (by omega), if_neg (by omega), if_neg (by omega), if_neg (by omega), if_neg (by omega), if_neg (by omega), if_neg (by omega), if_pos (by omega)]
theorem numsT_one (n : Nat) : numsT [n] = decL n := by unfold numsT; exact Lib.join_one _ _
theorem numsT_three (a n : Nat) : numsT [a, 5, n] = decL a ++ [59, 53, 59] ++ decL n := by
  rw [numsT_cons]
  simp [Lib.joinTail, decL_small (show 5 < 10 by omega)]
theorem dec38 : decL 38 = [51, 56] := by rw [decL_big (by omega), decL_small (by omega)]; rfl
theorem dec48 : decL 48 = [52, 56] := by rw [decL_big (by omega), decL_small (by omega)]; rfl
theorem op_done {p : PS} (h : p.inE = false) {o : Op} (hr : opRightB o = true) : consumeAll p (chars (opSeq o)) = ⟨opP p.codes o, false, 0, []⟩ := by
  have one : ∀ n : Nat, n < 1000 → consumeAll p (chars ([27, 91] ++ decL n ++ [109])) = ⟨procCode n p.codes, false, 0, []⟩ := by
    intro n hn
    have := seq_nums h n [] (by rw [numsT_one]; have := decL_len n (by omega); omega)
    rw [numsT_one, nums_one _ _ (by omega)] at this
    exact this
  have three : ∀ a n : Nat, (a = 38 ∨ a = 48) → n ≤ 255 → consumeAll p (chars ([27, 91] ++ (decL a ++ [59, 53, 59] ++ decL n) ++ [109])) = ⟨clearStd (decide (a = 38)) (set256 (if (a : Int) = 38 then 1000 else 2000) n p.codes), false, 0, []⟩ := by
    intro a n ha hn
    have := seq_nums h a [5, n] (by
      rw [numsT_three]
      have := decL_len a (by omega)
      have := decL_len n (by omega)
      simp only [List.length_append, List.length_cons, List.length_nil]
      omega)
    rw [numsT_three, nums_256 _ _ _ ha hn] at this
    exact this
  rcases opRight_cases hr with ⟨hk, ha⟩ | hk | ⟨hk, ha⟩ | ⟨hk, ha⟩ | ⟨hk, ha⟩
  · have hn := attr_range ha
    unfold opSeq opP
    rw [if_neg (by omega), if_neg (by omega), if_neg (by omega), if_pos hk]
    have := one o.n.toNat (by omega)
    rw [show ((o.n.toNat : Nat) : Int) = o.n by omega, procCode_attr ha] at this
    exact this
  · unfold opSeq opP
    rw [if_pos hk, if_neg (by omega), if_pos hk]
    have := one 0 (by omega)
    rw [decL_small (by omega)] at this
    exact this
  · have hn := off_range ha
    unfold opSeq opP
    rw [if_neg (by omega), if_neg (by omega), if_neg (by omega), if_neg (by omega), if_neg (by omega), if_pos hk]
    have := one o.n.toNat (by omega)
    rw [show ((o.n.toNat : Nat) : Int) = o.n by omega] at this
    exact this
  · unfold opSeq opP
    rw [if_neg (by omega), if_pos hk, if_neg (by omega), if_neg (by omega), if_neg (by omega), if_pos hk]
    have := three 38 o.n.toNat (Or.inl rfl) (by omega)
    rw [show ((o.n.toNat : Nat) : Int) = o.n by omega, dec38] at this
    simpa [codeL] using this
  · unfold opSeq opP
    rw [if_neg (by omega), if_neg (by omega), if_pos hk, if_neg (by omega), if_neg (by omega), if_neg (by omega), if_neg (by omega)]
    have := three 48 o.n.toNat (Or.inr rfl) (by omega)
    rw [show ((o.n.toNat : Nat) : Int) = o.n by omega, dec48] at this
    simpa [codeL] using this
theorem consume_app (p : PS) (a b : List Int) : consumeAll p (a ++ b) = consumeAll (consumeAll p a) b := List.foldl_append ..
theorem ops_done : ∀ (l : List Op) (codes : List Int), (∀ o ∈ l, opRightB o = true) → consumeAll ⟨codes, false, 0, []⟩ (chars (opsT l)) = ⟨l.foldl opP codes, false, 0, []⟩
  | [], codes, _ => rfl
  | o :: l, codes, h => by
    show consumeAll _ (chars (opSeq o ++ opsT l)) = _
    rw [chars_append, consume_app, op_done rfl (h o (by simp)), ops_done l _ fun x hx => h x (by simp [hx])]
    rfl

/-! ### the codes behind some sequences -/
theorem mem_delR {a b x : Int} {l : List Int} : x ∈ delR a b l ↔ x ∈ l ∧ ¬ (a ≤ x ∧ x ≤ b) := by
  unfold delR
  rw [List.mem_filter]
  simp
  intro _
  omega
theorem mem_std {fg : Bool} {x : Int} {l : List Int} : x ∈ clearStd fg l ↔ x ∈ l ∧ ¬ (if fg = true then (30 ≤ x ∧ x ≤ 37) ∨ (90 ≤ x ∧ x ≤ 97) else (40 ≤ x ∧ x ≤ 47) ∨ (100 ≤ x ∧ x ≤ 107)) := by
  unfold clearStd
  cases fg <;> simp only [if_true, Bool.false_eq_true, if_false, mem_delR] <;> constructor
  · rintro ⟨⟨h1, h2⟩, h3⟩; exact ⟨h1, by omega⟩
  · rintro ⟨h1, h2⟩; exact ⟨⟨h1, by omega⟩, by omega⟩
  · rintro ⟨⟨h1, h2⟩, h3⟩; exact ⟨h1, by omega⟩
  · rintro ⟨h1, h2⟩; exact ⟨⟨h1, by omega⟩, by omega⟩
theorem mem_all {fg : Bool} {x : Int} {l : List Int} : x ∈ clearAll fg l ↔ x ∈ clearStd fg l ∧ ¬ (if fg = true then 1000 ≤ x ∧ x ≤ 1255 else 2000 ≤ x ∧ x ≤ 2255) := by
  unfold clearAll
  cases fg <;> simp only [if_true, Bool.false_eq_true, if_false, mem_delR]
theorem mem_256 {b v x : Int} (hv : 0 ≤ v ∧ v ≤ 255) {l : List Int} : x ∈ set256 b v l ↔ x = b + v ∨ (x ∈ l ∧ ¬ (b ≤ x ∧ x ≤ b + 255)) := by
  unfold set256
  rw [List.mem_filter, mem_insC]
  simp
  constructor
  · rintro ⟨h1, h2⟩
    rcases h1 with h1 | h1
    · exact Or.inl h1
    · by_cases e : x = b + v
      · exact Or.inl e
      · exact Or.inr ⟨h1, by rcases h2 with h2 | h2 <;> omega⟩
  · rintro (h | ⟨h1, h2⟩)
    · exact ⟨Or.inl h, Or.inr h⟩
    · refine ⟨Or.inr h1, Or.inl ?_⟩
      omega
theorem mem_proc {n x : Int} (h : offCodeB n = true) {l : List Int} (hx : x < 1000) : x ∈ procCode n l ↔ x ∈ l ∧ offB n x = false := by
  have hn : n = 22 ∨ n = 23 ∨ n = 24 ∨ n = 25 ∨ n = 27 ∨ n = 29 ∨ n = 39 ∨ n = 49 := by
    unfold offCodeB at h
    simp at h
    omega
  rcases hn with rfl | rfl | rfl | rfl | rfl | rfl | rfl | rfl
  · show x ∈ delC 2 (delC 1 l) ↔ x ∈ l ∧ (decide (x = 1) || decide (x = 2)) = false
    rw [mem_delC, mem_delC]
    simp
    constructor
    · rintro ⟨⟨a, b⟩, c⟩; exact ⟨a, b, c⟩
    · rintro ⟨a, b, c⟩; exact ⟨⟨a, b⟩, c⟩
  · show x ∈ delC 3 l ↔ x ∈ l ∧ decide (x = 3) = false
    rw [mem_delC]; simp
  · show x ∈ delC 4 l ↔ x ∈ l ∧ decide (x = 4) = false
    rw [mem_delC]; simp
  · show x ∈ delC 6 (delC 5 l) ↔ x ∈ l ∧ (decide (x = 5) || decide (x = 6)) = false
    rw [mem_delC, mem_delC]
    simp
    constructor
    · rintro ⟨⟨a, b⟩, c⟩; exact ⟨a, b, c⟩
    · rintro ⟨a, b, c⟩; exact ⟨⟨a, b⟩, c⟩
  · show x ∈ delC 7 l ↔ x ∈ l ∧ decide (x = 7) = false
    rw [mem_delC]; simp
  · show x ∈ delC 9 l ↔ x ∈ l ∧ decide (x = 9) = false
    rw [mem_delC]; simp
  · show x ∈ clearAll true l ↔ x ∈ l ∧ ((decide (30 ≤ x) && decide (x ≤ 37)) || (decide (90 ≤ x) && decide (x ≤ 97))) = false
    rw [mem_all, mem_std]
    simp only [if_true]
    constructor
    · rintro ⟨⟨a, b⟩, c⟩
      refine ⟨a, ?_⟩
      simp
      omega
    · rintro ⟨a, b⟩
      simp at b
      exact ⟨⟨a, by omega⟩, by omega⟩
  · show x ∈ clearAll false l ↔ x ∈ l ∧ ((decide (40 ≤ x) && decide (x ≤ 47)) || (decide (100 ≤ x) && decide (x ≤ 107))) = false
    rw [mem_all, mem_std]
    simp only [Bool.false_eq_true, if_false]
    constructor
    · rintro ⟨⟨a, b⟩, c⟩
      refine ⟨a, ?_⟩
      simp
      omega
    · rintro ⟨a, b⟩
      simp at b
      exact ⟨⟨a, by omega⟩, by omega⟩
theorem mem_proc_in {n x : Int} (h : offCodeB n = true) {l : List Int} (hx : x ∈ procCode n l) : x ∈ l := by
  have hn : n = 22 ∨ n = 23 ∨ n = 24 ∨ n = 25 ∨ n = 27 ∨ n = 29 ∨ n = 39 ∨ n = 49 := by
    unfold offCodeB at h
    simp at h
    omega
  rcases hn with rfl | rfl | rfl | rfl | rfl | rfl | rfl | rfl
  · exact (mem_delC.1 (mem_delC.1 hx).1).1
  · exact (mem_delC.1 hx).1
  · exact (mem_delC.1 hx).1
  · exact (mem_delC.1 (mem_delC.1 hx).1).1
  · exact (mem_delC.1 hx).1
  · exact (mem_delC.1 hx).1
  · have hx' : x ∈ clearAll true l := hx
    exact (mem_std.1 (mem_all.1 hx').1).1
  · have hx' : x ∈ clearAll false l := hx
    exact (mem_std.1 (mem_all.1 hx').1).1
/-- Codes that the statements' sequences can turn on: at most one of 256 of the foreground, one of the background. -/
structure Shape (l : List Int) : Prop where
  rising : Rising l
  kinds : ∀ x ∈ l, attrB x = true ∨ (1000 ≤ x ∧ x ≤ 1255) ∨ (2000 ≤ x ∧ x ≤ 2255)
  fore : ∀ x ∈ l, ∀ y ∈ l, (1000 ≤ x ∧ x ≤ 1255) → (1000 ≤ y ∧ y ≤ 1255) → x = y
  back : ∀ x ∈ l, ∀ y ∈ l, (2000 ≤ x ∧ x ≤ 2255) → (2000 ≤ y ∧ y ≤ 2255) → x = y
theorem Shape.nil : Shape [] := ⟨List.Pairwise.nil, fun x hx => by simp at hx, fun x hx => by simp at hx, fun x hx => by simp at hx⟩
theorem Shape.sub {l m : List Int} (h : Shape l) (hr : Rising m) (hs : ∀ x ∈ m, x ∈ l) : Shape m :=
  ⟨hr, fun x hx => h.kinds x (hs x hx), fun x hx y hy => h.fore x (hs x hx) y (hs y hy), fun x hx y hy => h.back x (hs x hx) y (hs y hy)⟩
theorem Shape.op {l : List Int} (h : Shape l) {o : Op} (hr : opRightB o = true) : Shape (opP l o) := by
  rcases opRight_cases hr with ⟨hk, ha⟩ | hk | ⟨hk, ha⟩ | ⟨hk, ha⟩ | ⟨hk, ha⟩
  · unfold opP
    rw [if_pos hk]
    have hc := attr_range ha
    have hi : ∀ x ∈ insC o.n l, 1000 ≤ x → x ∈ l := fun x hx hx2 => by
      rcases mem_insC.1 hx with e | e
      · omega
      · exact e
    refine ⟨h.rising.ins _, fun x hx => ?_, fun x hx y hy h1 h2 => h.fore x (hi x hx h1.1) y (hi y hy h2.1) h1 h2, fun x hx y hy h1 h2 => h.back x (hi x hx (by omega)) y (hi y hy (by omega)) h1 h2⟩
    rcases mem_insC.1 hx with e | e
    · rw [e]; exact Or.inl ha
    · exact h.kinds x e
  · unfold opP
    rw [if_neg (by omega), if_pos hk]
    exact Shape.nil
  · unfold opP
    rw [if_neg (by omega), if_neg (by omega), if_pos hk]
    exact h.sub (h.rising.code _) fun x hx => mem_proc_in ha hx
  · unfold opP
    rw [if_neg (by omega), if_neg (by omega), if_neg (by omega), if_pos hk]
    have hm : ∀ x ∈ clearStd true (set256 1000 o.n l), x = 1000 + o.n ∨ (x ∈ l ∧ ¬ (1000 ≤ x ∧ x ≤ 1255)) := fun x hx => (mem_256 ha).1 (mem_std.1 hx).1
    refine ⟨(h.rising.set256 _ _).std _, fun x hx => ?_, fun x hx y hy h1 h2 => ?_, fun x hx y hy h1 h2 => ?_⟩
    · rcases hm x hx with e | ⟨e, _⟩
      · exact Or.inr (Or.inl (by omega))
      · exact h.kinds x e
    · rcases hm x hx with e | ⟨_, e⟩
      · rcases hm y hy with e2 | ⟨_, e2⟩
        · omega
        · exact absurd h2 e2
      · exact absurd h1 e
    · rcases hm x hx with e | ⟨e, _⟩
      · omega
      · rcases hm y hy with e2 | ⟨e2, _⟩
        · omega
        · exact h.back x e y e2 h1 h2
  · unfold opP
    rw [if_neg (by omega), if_neg (by omega), if_neg (by omega), if_neg (by omega)]
    have hm : ∀ x ∈ clearStd false (set256 2000 o.n l), x = 2000 + o.n ∨ (x ∈ l ∧ ¬ (2000 ≤ x ∧ x ≤ 2255)) := fun x hx => (mem_256 ha).1 (mem_std.1 hx).1
    refine ⟨(h.rising.set256 _ _).std _, fun x hx => ?_, fun x hx y hy h1 h2 => ?_, fun x hx y hy h1 h2 => ?_⟩
    · rcases hm x hx with e | ⟨e, _⟩
      · exact Or.inr (Or.inr (by omega))
      · exact h.kinds x e
    · rcases hm x hx with e | ⟨e, _⟩
      · omega
      · rcases hm y hy with e2 | ⟨e2, _⟩
        · omega
        · exact h.fore x e y e2 h1 h2
    · rcases hm x hx with e | ⟨_, e⟩
      · rcases hm y hy with e2 | ⟨_, e2⟩
        · omega
        · exact absurd h2 e2
      · exact absurd h1 e
theorem Shape.ops : ∀ {l : List Op} {codes : List Int}, Shape codes → (∀ o ∈ l, opRightB o = true) → Shape (l.foldl opP codes)
  | [], _, h, _ => h
  | o :: l, _, h, hl => Shape.ops (l := l) (h.op (hl o (by simp))) fun x hx => hl x (by simp [hx])
/-- The parser's codes, and the ones that are told of. -/
def Same (a b : List Int) : Prop := (∀ x, x ∈ a ↔ x ∈ b) ∧ ∀ x ∈ a, attrB x = true
theorem Same.op {a b : List Int} (h : Same a b) {o : Op} (hr : opRightB o = true) (hk2 : o.kind ≤ 2) : Same (opP a o) (afterOp b o) := by
  obtain ⟨h1, h2⟩ := h
  rcases opRight_cases hr with ⟨hk, ha⟩ | hk | ⟨hk, ha⟩ | ⟨hk, ha⟩ | ⟨hk, ha⟩
  · unfold opP afterOp
    rw [if_pos hk, if_pos hk]
    have hc := attr_range ha
    refine ⟨fun x => ?_, fun x hx => ?_⟩
    · rw [mem_insC, withC_mem (by omega), h1 x, or_comm]
    · rcases mem_insC.1 hx with e | e
      · rw [e]; exact ha
      · exact h2 x e
  · unfold opP afterOp
    rw [if_neg (by omega), if_pos hk, if_neg (by omega), if_pos hk]
    exact ⟨fun x => Iff.rfl, fun x hx => by simp at hx⟩
  · unfold opP afterOp
    rw [if_neg (by omega), if_neg (by omega), if_pos hk, if_neg (by omega), if_neg (by omega), if_pos hk]
    refine ⟨fun x => ?_, fun x hx => h2 x (mem_proc_in ha hx)⟩
    rw [List.mem_filter]
    constructor
    · intro hx
      have hxa := mem_proc_in ha hx
      have hlt := (attr_range (h2 x hxa)).2
      have := (mem_proc ha hlt).1 hx
      exact ⟨(h1 x).1 hxa, by rw [this.2]; rfl⟩
    · rintro ⟨hx, hoff⟩
      have hxa := (h1 x).2 hx
      have hlt := (attr_range (h2 x hxa)).2
      exact (mem_proc ha hlt).2 ⟨hxa, by simpa using hoff⟩
  · omega
  · omega
theorem Same.ops : ∀ {l : List Op} {a b : List Int}, Same a b → (∀ o ∈ l, opRightB o = true ∧ o.kind ≤ 2) → Same (l.foldl opP a) (l.foldl afterOp b)
  | [], _, _, h, _ => h
  | o :: l, _, _, h, hl => Same.ops (l := l) (h.op (hl o (by simp)).1 (hl o (by simp)).2) fun x hx => hl x (by simp [hx])
theorem Same.nil : Same [] [] := ⟨fun x => Iff.rfl, fun x hx => by simp at hx⟩
theorem Same.alike {a b : List Int} (h : Same a b) : alikeB a b = true := (alike_iff a b).2 ⟨fun x hx => (h.1 x).1 hx, fun x hx => (h.1 x).2 hx⟩
end Go.Proofs.YtlclmpiocbkabaaGreatDoor
namespace Go.Proofs.YtlclmpiocbkabaaGreatDoor
open Go.RowKit
set_option linter.unusedVariables false

abbrev foreB (c : Int) : Prop := 1000 ≤ c ∧ c ≤ 1255
abbrev backB (c : Int) : Prop := 2000 ≤ c ∧ c ≤ 2255
def numsOne (c : Int) : List Nat := if foreB c then [38, 5, (c - 1000).toNat] else if backB c then [48, 5, (c - 2000).toNat] else [c.toNat]
def numsP (l : List Int) : List Nat := l.flatMap numsOne
theorem itoaB_nat {x : Int} (h : 0 ≤ x) : bl (itoaB x) = decL x.toNat := by
  unfold itoaB
  rw [bl_mk, if_neg (by omega)]
theorem seqOne_eq {c : Int} (h : 0 ≤ c) : seqOne c = numsT (numsOne c) := by
  unfold seqOne seqOneB numsOne
  have e59 : bl (⟨#[59]⟩ : ByteArray) = [59] := rfl
  by_cases h1 : foreB c
  · have h1' := h1
    unfold foreB at h1'
    rw [if_pos h1', if_pos h1, numsT_three]
    simp only [bl_app, e59]
    rw [itoaB_nat (by omega), itoaB_nat (by omega), itoaB_nat (by omega)]
    show decL 38 ++ [59] ++ decL 5 ++ [59] ++ _ = _
    rw [decL_small (show 5 < 10 by omega)]
    simp
  · have h1' := h1
    unfold foreB at h1'
    rw [if_neg h1', if_neg h1]
    by_cases h2 : backB c
    · have h2' := h2
      unfold backB at h2'
      rw [if_pos h2', if_pos h2, numsT_three]
      simp only [bl_app, e59]
      rw [itoaB_nat (by omega), itoaB_nat (by omega), itoaB_nat (by omega)]
      show decL 48 ++ [59] ++ decL 5 ++ [59] ++ _ = _
      rw [decL_small (show 5 < 10 by omega)]
      simp
    · have h2' := h2
      unfold backB at h2'
      rw [if_neg h2', if_neg h2, numsT_one, itoaB_nat h]
theorem tail_app (a b : List (List UInt8)) : Lib.joinTail [59] (a ++ b) = Lib.joinTail [59] a ++ Lib.joinTail [59] b := by simp [Lib.joinTail]
theorem numsT_app {ns : List Nat} (h : ns ≠ []) (ms : List Nat) : numsT (ns ++ ms) = numsT ns ++ Lib.joinTail [59] (ms.map decL) := by
  cases ns with
  | nil => exact absurd rfl h
  | cons a t => rw [List.cons_append, numsT_cons, numsT_cons, List.map_append, tail_app, List.append_assoc]
theorem tail_nums {ns : List Nat} (h : ns ≠ []) : Lib.joinTail [59] (ns.map decL) = 59 :: numsT ns := by
  cases ns with
  | nil => exact absurd rfl h
  | cons a t => rw [numsT_cons]; simp [Lib.joinTail]
theorem numsOne_ne (c : Int) : numsOne c ≠ [] := by
  unfold numsOne
  split
  · simp
  · split <;> simp
theorem seqCat_pos : ∀ (l : List Int) (k : Nat), (∀ c ∈ l, 0 ≤ c) → seqCat (k + 1) l = Lib.joinTail [59] ((numsP l).map decL)
  | [], _, _ => rfl
  | c :: r, k, h => by
    rw [seqCat, if_pos (by omega), seqCat_pos r (k + 1) fun x hx => h x (by simp [hx]), seqOne_eq (h c (by simp))]
    show _ = Lib.joinTail [59] ((numsOne c ++ numsP r).map decL)
    rw [List.map_append, tail_app, tail_nums (numsOne_ne c)]
    rfl
theorem seqCat_zero (c : Int) (r : List Int) (h : ∀ x ∈ c :: r, 0 ≤ x) : seqCat 0 (c :: r) = numsT (numsP (c :: r)) := by
  rw [seqCat, if_neg (by omega), seqCat_pos r 0 fun x hx => h x (by simp [hx]), seqOne_eq (h c (by simp))]
  show _ = numsT (numsOne c ++ numsP r)
  rw [numsT_app (numsOne_ne c), List.nil_append]
theorem seqP_nums {l : List Int} (hl : l ≠ []) (h : ∀ c ∈ l, 0 ≤ c) : seqP l = [27, 91] ++ numsT (numsP l) ++ [109] := by
  cases l with
  | nil => exact absurd rfl hl
  | cons c r => rw [seqP, if_neg hl, seqCat_zero c r h]
theorem seqP_attr {l : List Int} (h : ∀ c ∈ l, 0 ≤ c ∧ c < 1000) : seqP l = seqL l := by
  cases hl : l with
  | nil => rfl
  | cons c r =>
    rw [← hl, seqP_nums (by rw [hl]; simp) (fun c hc => (h c hc).1), seqL, if_neg (by rw [hl]; simp)]
    have e : ∀ m : List Int, (∀ c ∈ m, 0 ≤ c ∧ c < 1000) → numsP m = m.map Int.toNat := by
      intro m
      induction m with
      | nil => intro _; rfl
      | cons c m ih =>
        intro hm
        have hc := hm c (by simp)
        show numsOne c ++ numsP m = _
        rw [ih fun x hx => hm x (by simp [hx])]
        unfold numsOne foreB backB
        rw [if_neg (by omega), if_neg (by omega)]
        rfl
    rw [e l h]
    unfold numsT
    rw [List.map_map]
    rfl
def kindB (c : Int) : Prop := attrB c = true ∨ foreB c ∨ backB c
theorem numsP_len : ∀ (l : List Int), (∀ c ∈ l, kindB c) → (Lib.joinTail [59] ((numsP l).map decL)).length ≤ 15 * l.length
  | [], _ => by simp [numsP, Lib.joinTail]
  | c :: r, h => by
    have ih := numsP_len r fun x hx => h x (by simp [hx])
    have h1 : (numsT (numsOne c)).length ≤ 14 := by
      unfold numsOne
      have hk := h c (by simp)
      unfold kindB foreB backB at hk
      split
      · next h1 =>
        unfold foreB at h1
        rw [numsT_three]
        have := decL_len 38 (by omega)
        have := decL_len (c - 1000).toNat (by omega)
        simp only [List.length_append, List.length_cons, List.length_nil]
        omega
      · split
        · next h1 =>
          unfold backB at h1
          rw [numsT_three]
          have := decL_len 48 (by omega)
          have := decL_len (c - 2000).toNat (by omega)
          simp only [List.length_append, List.length_cons, List.length_nil]
          omega
        · next h1 h2 =>
          rw [numsT_one]
          have := decL_len c.toNat (by
            unfold foreB at h1
            unfold backB at h2
            rcases hk with hk | hk | hk
            · have := attr_range hk; omega
            · exact absurd hk h1
            · exact absurd hk h2)
          omega
    show (Lib.joinTail [59] ((numsOne c ++ numsP r).map decL)).length ≤ _
    rw [List.map_append, tail_app, tail_nums (numsOne_ne c), List.length_append, List.length_cons, List.length_cons]
    omega

/-! ### the three passes -/
def colStep (s : List Int) (c : Int) : List Int := if foreB c then clearStd true (set256 1000 (c - 1000) s) else if backB c then clearStd false (set256 2000 (c - 2000) s) else s
def regStep (s : List Int) (c : Int) : List Int := if foreB c then s else if backB c then s else procCode c s
def idxAll : List Int → Nat → List Int → List Int
  | [], _, idx => idx
  | c :: r, i, idx => if foreB c ∨ backB c then idxAll r (i + 3) (insC (i + 2) (insC (i + 1) (insC i idx))) else idxAll r (i + 1) idx
def ColPos : List Int → Nat → Int → Prop
  | [], _, _ => False
  | c :: r, i, j => if foreB c ∨ backB c then (j = i ∨ j = i + 1 ∨ j = i + 2) ∨ ColPos r (i + 3) j else ColPos r (i + 1) j
theorem colPos_le : ∀ (l : List Int) (i : Nat) (j : Int), ColPos l i j → (i : Int) ≤ j
  | [], _, _, h => h.elim
  | c :: r, i, j, h => by
    rw [ColPos] at h
    split at h
    · rcases h with h | h
      · omega
      · have := colPos_le r _ _ h; omega
    · have := colPos_le r _ _ h; omega
theorem mem_idxAll : ∀ (l : List Int) (i : Nat) (idx : List Int) (j : Int), j ∈ idxAll l i idx ↔ j ∈ idx ∨ ColPos l i j
  | [], _, _, _ => by simp [idxAll, ColPos]
  | c :: r, i, idx, j => by
    rw [idxAll, ColPos]
    split
    · rw [mem_idxAll, mem_insC, mem_insC, mem_insC]
      constructor
      · rintro ((h | h | h | h) | h)
        · exact Or.inr (Or.inl (Or.inr (Or.inr h)))
        · exact Or.inr (Or.inl (Or.inr (Or.inl h)))
        · exact Or.inr (Or.inl (Or.inl h))
        · exact Or.inl h
        · exact Or.inr (Or.inr h)
      · rintro (h | (h | h | h) | h)
        · exact Or.inl (Or.inr (Or.inr (Or.inr h)))
        · exact Or.inl (Or.inr (Or.inr (Or.inl h)))
        · exact Or.inl (Or.inr (Or.inl h))
        · exact Or.inl (Or.inl h)
        · exact Or.inr h
    · rw [mem_idxAll]
theorem attr_not {c : Int} (h : attrB c = true) : ¬ foreB c ∧ ¬ backB c ∧ c.toNat ≠ 38 ∧ c.toNat ≠ 48 ∧ c.toNat < 1000 ∧ 0 < c := by
  have := attr_cases h
  unfold foreB backB
  omega
theorem at_pre (pre : List Nat) (m : Nat) (ns : List Nat) : ((pre ++ m :: ns).map decL)[pre.length]? = some (decL m) := by
  rw [List.map_append, List.getElem?_append_right (by simp), List.length_map, Nat.sub_self]
  rfl
theorem at_pre1 (pre : List Nat) (a m : Nat) (ns : List Nat) : ((pre ++ a :: m :: ns).map decL)[pre.length + 1]? = some (decL m) := by
  rw [List.map_append, List.getElem?_append_right (by simp), List.length_map, Nat.add_sub_cancel_left]
  rfl
theorem at_pre2 (pre : List Nat) (a b m : Nat) (ns : List Nat) : ((pre ++ a :: b :: m :: ns).map decL)[pre.length + 2]? = some (decL m) := by
  rw [List.map_append, List.getElem?_append_right (by simp), List.length_map, Nat.add_sub_cancel_left]
  rfl
theorem proc_all : ∀ (l : List Int) (pre : List Nat) (f : Nat) (st : List Int × List Int), (∀ c ∈ l, kindB c) → (numsP l).length ≤ f →
    proc256 ((pre ++ numsP l).map decL) f pre.length st = (l.foldl colStep st.1, idxAll l pre.length st.2)
  | [], pre, f, st, _, _ => by
    rw [show numsP [] = [] from rfl, List.append_nil]
    cases f with
    | zero => rfl
    | succ f => rw [proc256_done (by simp)]; rfl
  | c :: r, pre, f, st, h, hf => by
    have hr := fun x hx => h x (List.mem_cons_of_mem c hx)
    have hk := h c (by simp)
    have e0 : numsP (c :: r) = numsOne c ++ numsP r := rfl
    rw [e0] at hf ⊢
    have three : ∀ a v : Nat, (a = 38 ∨ a = 48) → v ≤ 255 → numsOne c = [a, 5, v] → proc256 ((pre ++ (numsOne c ++ numsP r)).map decL) f pre.length st = (r.foldl colStep (clearStd (decide (a = 38)) (set256 (if (a : Int) = 38 then 1000 else 2000) v st.1)), idxAll r (pre.length + 3) (insC (pre.length + 2) (insC (pre.length + 1) (insC pre.length st.2)))) := by
      intro a v ha hv en
      rw [en] at hf ⊢
      obtain ⟨g, rfl⟩ : ∃ g, f = g + 1 := ⟨f - 1, by simp at hf; omega⟩
      have hp : p256 ((pre ++ ([a, 5, v] ++ numsP r)).map decL) pre.length = some ((v : Int), if (a : Int) = 38 then 1000 else 2000) := p256_yes (at_pre pre a _) (at_pre1 pre a 5 _) (at_pre2 pre a 5 v _) ha hv
      rw [proc256_some (by simp) hp]
      have ih := proc_all r (pre ++ [a, 5, v]) g (clearStd (decide ((if (a : Int) = 38 then (1000 : Int) else 2000) = 1000)) (set256 (if (a : Int) = 38 then 1000 else 2000) v st.1), insC ((pre.length : Int) + 2) (insC ((pre.length : Int) + 1) (insC pre.length st.2))) hr (by simp at hf; omega)
      rw [List.append_assoc, List.length_append] at ih
      rw [show [a, 5, v].length = 3 from rfl] at ih
      rw [ih]
      have : decide ((if (a : Int) = 38 then (1000 : Int) else 2000) = 1000) = decide (a = 38) := by
        rcases ha with rfl | rfl <;> rfl
      rw [this]
    by_cases h1 : foreB c
    · have h1' := h1
      unfold foreB at h1'
      have en : numsOne c = [38, 5, (c - 1000).toNat] := by unfold numsOne; rw [if_pos h1]
      rw [three 38 (c - 1000).toNat (Or.inl rfl) (by omega) en]
      rw [List.foldl_cons, idxAll, if_pos (Or.inl h1), colStep, if_pos h1]
      rw [show (((c - 1000).toNat : Nat) : Int) = c - 1000 by omega]
      rfl
    · by_cases h2 : backB c
      · have h2' := h2
        unfold backB at h2'
        have en : numsOne c = [48, 5, (c - 2000).toNat] := by unfold numsOne; rw [if_neg h1, if_pos h2]
        rw [three 48 (c - 2000).toNat (Or.inr rfl) (by omega) en]
        rw [List.foldl_cons, idxAll, if_pos (Or.inr h2), colStep, if_neg h1, if_pos h2]
        rw [show (((c - 2000).toNat : Nat) : Int) = c - 2000 by omega]
        rfl
      · have ha : attrB c = true := by
          rcases hk with hk | hk | hk
          · exact hk
          · exact absurd hk h1
          · exact absurd hk h2
        have hn := attr_not ha
        have en : numsOne c = [c.toNat] := by unfold numsOne; rw [if_neg h1, if_neg h2]
        rw [en] at hf ⊢
        obtain ⟨g, rfl⟩ : ∃ g, f = g + 1 := ⟨f - 1, by simp at hf; omega⟩
        have hp : p256 ((pre ++ ([c.toNat] ++ numsP r)).map decL) pre.length = none := p256_not (at_pre pre c.toNat _) (by omega) hn.2.2.1 hn.2.2.2.1
        rw [proc256_none (by simp) hp]
        have ih := proc_all r (pre ++ [c.toNat]) g st hr (by simp at hf; omega)
        rw [List.append_assoc, List.length_append] at ih
        rw [show [c.toNat].length = 1 from rfl] at ih
        have hnc : ¬ (foreB c ∨ backB c) := by
          rintro (h | h)
          · exact h1 h
          · exact h2 h
        rw [ih, List.foldl_cons, idxAll, if_neg hnc, colStep, if_neg h1, if_neg h2]
theorem reg_all (idx : List Int) : ∀ (l : List Int) (i : Nat) (s : List Int), (∀ c ∈ l, kindB c) → (∀ j : Int, (i : Int) ≤ j → (j ∈ idx ↔ ColPos l i j)) → procReg idx i ((numsP l).map decL) s = l.foldl regStep s
  | [], i, s, _, _ => rfl
  | c :: r, i, s, h, hi => by
    have hr := fun x hx => h x (List.mem_cons_of_mem c hx)
    have hk := h c (by simp)
    have e0 : numsP (c :: r) = numsOne c ++ numsP r := rfl
    rw [e0, List.map_append]
    have three : ∀ a v : Nat, (foreB c ∨ backB c) → procReg idx i ([a, 5, v].map decL ++ (numsP r).map decL) s = r.foldl regStep s := by
      intro a v hc
      have h3 : ∀ j : Int, (j = i ∨ j = i + 1 ∨ j = i + 2) → j ∈ idx := fun j hj => (hi j (by omega)).2 (by rw [ColPos, if_pos hc]; exact Or.inl hj)
      show procReg idx i (decL a :: decL 5 :: decL v :: (numsP r).map decL) s = _
      rw [procReg, if_pos (h3 _ (Or.inl rfl)), procReg, if_pos (h3 _ (Or.inr (Or.inl (by omega)))), procReg, if_pos (h3 _ (Or.inr (Or.inr (by omega))))]
      exact reg_all idx r (i + 1 + 1 + 1) s hr fun j hj => by
        rw [hi j (by omega), ColPos, if_pos hc]
        constructor
        · rintro (h | h)
          · omega
          · exact h
        · exact Or.inr
    rw [List.foldl_cons]
    by_cases h1 : foreB c
    · have en : numsOne c = [38, 5, (c - 1000).toNat] := by unfold numsOne; rw [if_pos h1]
      rw [en, three _ _ (Or.inl h1), regStep, if_pos h1]
    · by_cases h2 : backB c
      · have en : numsOne c = [48, 5, (c - 2000).toNat] := by unfold numsOne; rw [if_neg h1, if_pos h2]
        rw [en, three _ _ (Or.inr h2), regStep, if_neg h1, if_pos h2]
      · have ha : attrB c = true := by
          rcases hk with hk | hk | hk
          · exact hk
          · exact absurd hk h1
          · exact absurd hk h2
        have hn := attr_not ha
        have en : numsOne c = [c.toNat] := by unfold numsOne; rw [if_neg h1, if_neg h2]
        have hnc : ¬ (foreB c ∨ backB c) := by
          rintro (h | h)
          · exact h1 h
          · exact h2 h
        have hni : ¬ ((i : Int) ∈ idx) := fun hm => by
          have := (hi i (by omega)).1 hm
          rw [ColPos, if_neg hnc] at this
          have := colPos_le _ _ _ this
          omega
        rw [en]
        show procReg idx i (decL c.toNat :: (numsP r).map decL) s = _
        rw [procReg, if_neg hni, atoi_dec _ (by omega), regStep, if_neg h1, if_neg h2]
        dsimp only
        rw [show ((c.toNat : Nat) : Int) = c by omega]
        exact reg_all idx r (i + 1) _ hr fun j hj => by rw [hi j (by omega), ColPos, if_neg hnc]
theorem mem_reg : ∀ (l : List Int) (s : List Int) (x : Int), (∀ c ∈ l, kindB c) → (x ∈ l.foldl regStep s ↔ x ∈ s ∨ (x ∈ l ∧ ¬ foreB x ∧ ¬ backB x))
  | [], s, x, _ => by simp
  | c :: r, s, x, h => by
    rw [List.foldl_cons, mem_reg r _ x fun y hy => h y (by simp [hy])]
    have hk := h c (by simp)
    unfold regStep
    by_cases h1 : foreB c
    · rw [if_pos h1]
      constructor
      · rintro (h | ⟨h, g⟩)
        · exact Or.inl h
        · exact Or.inr ⟨by simp [h], g⟩
      · rintro (h | ⟨h, g⟩)
        · exact Or.inl h
        · rcases List.mem_cons.1 h with rfl | h
          · exact absurd h1 g.1
          · exact Or.inr ⟨h, g⟩
    · rw [if_neg h1]
      by_cases h2 : backB c
      · rw [if_pos h2]
        constructor
        · rintro (h | ⟨h, g⟩)
          · exact Or.inl h
          · exact Or.inr ⟨by simp [h], g⟩
        · rintro (h | ⟨h, g⟩)
          · exact Or.inl h
          · rcases List.mem_cons.1 h with rfl | h
            · exact absurd h2 g.2
            · exact Or.inr ⟨h, g⟩
      · have ha : attrB c = true := by
          rcases hk with hk | hk | hk
          · exact hk
          · exact absurd hk h1
          · exact absurd hk h2
        rw [if_neg h2, procCode_attr ha, mem_insC]
        constructor
        · rintro ((rfl | h) | ⟨h, g⟩)
          · exact Or.inr ⟨by simp, h1, h2⟩
          · exact Or.inl h
          · exact Or.inr ⟨by simp [h], g⟩
        · rintro (h | ⟨h, g⟩)
          · exact Or.inl (Or.inr h)
          · rcases List.mem_cons.1 h with rfl | h
            · exact Or.inl (Or.inl rfl)
            · exact Or.inr ⟨h, g⟩
theorem mem_col : ∀ (l : List Int) (s : List Int) (x : Int), (∀ c ∈ s, foreB c ∨ backB c) → (∀ a, (a ∈ s ∨ a ∈ l) → ∀ b, (b ∈ s ∨ b ∈ l) → foreB a → foreB b → a = b) → (∀ a, (a ∈ s ∨ a ∈ l) → ∀ b, (b ∈ s ∨ b ∈ l) → backB a → backB b → a = b) →
    (x ∈ l.foldl colStep s ↔ x ∈ s ∨ (x ∈ l ∧ (foreB x ∨ backB x)))
  | [], s, x, _, _, _ => by simp
  | c :: r, s, x, hs, hf, hb => by
    have key : ∀ y, y ∈ colStep s c ↔ y ∈ s ∨ (y = c ∧ (foreB c ∨ backB c)) := by
      intro y
      unfold colStep
      by_cases h1 : foreB c
      · have h1' := h1
        unfold foreB at h1'
        rw [if_pos h1, mem_std, mem_256 (by omega)]
        simp only [if_true]
        constructor
        · rintro ⟨h | ⟨h, _⟩, _⟩
          · exact Or.inr ⟨by omega, Or.inl h1⟩
          · exact Or.inl h
        · rintro (h | ⟨h, _⟩)
          · have hy := hs y h
            unfold foreB backB at hy
            by_cases hyf : foreB y
            · have := hf y (Or.inl h) c (Or.inr (by simp)) hyf h1
              exact ⟨Or.inl (by omega), by omega⟩
            · unfold foreB at hyf
              exact ⟨Or.inr ⟨h, by omega⟩, by omega⟩
          · exact ⟨Or.inl (by omega), by omega⟩
      · rw [if_neg h1]
        by_cases h2 : backB c
        · have h2' := h2
          unfold backB at h2'
          rw [if_pos h2, mem_std, mem_256 (by omega)]
          simp only [Bool.false_eq_true, if_false]
          constructor
          · rintro ⟨h | ⟨h, _⟩, _⟩
            · exact Or.inr ⟨by omega, Or.inr h2⟩
            · exact Or.inl h
          · rintro (h | ⟨h, _⟩)
            · have hy := hs y h
              unfold foreB backB at hy
              by_cases hyf : backB y
              · have := hb y (Or.inl h) c (Or.inr (by simp)) hyf h2
                exact ⟨Or.inl (by omega), by omega⟩
              · unfold backB at hyf
                exact ⟨Or.inr ⟨h, by omega⟩, by omega⟩
            · exact ⟨Or.inl (by omega), by omega⟩
        · rw [if_neg h2]
          constructor
          · exact Or.inl
          · rintro (h | ⟨_, h | h⟩)
            · exact h
            · exact absurd h h1
            · exact absurd h h2
    have sub : ∀ a, (a ∈ colStep s c ∨ a ∈ r) → (a ∈ s ∨ a ∈ c :: r) := by
      rintro a (h | h)
      · rcases (key a).1 h with h | ⟨h, _⟩
        · exact Or.inl h
        · exact Or.inr (by simp [h])
      · exact Or.inr (by simp [h])
    rw [List.foldl_cons, mem_col r (colStep s c) x ?_ (fun a ha b hb2 => hf a (sub a ha) b (sub b hb2)) (fun a ha b hb2 => hb a (sub a ha) b (sub b hb2)), key x]
    · constructor
      · rintro ((h | ⟨h, g⟩) | ⟨h, g⟩)
        · exact Or.inl h
        · exact Or.inr ⟨by simp [h], by rw [h]; exact g⟩
        · exact Or.inr ⟨by simp [h], g⟩
      · rintro (h | ⟨h, g⟩)
        · exact Or.inl (Or.inl h)
        · rcases List.mem_cons.1 h with h | h
          · exact Or.inl (Or.inr ⟨h, by rw [← h]; exact g⟩)
          · exact Or.inr ⟨h, g⟩
    · intro y hy
      rcases (key y).1 hy with h | ⟨h, g⟩
      · exact hs y h
      · rw [h]; exact g
theorem Shape.kind {l : List Int} (h : Shape l) : ∀ c ∈ l, kindB c := h.kinds
theorem Shape.pos {l : List Int} (h : Shape l) : ∀ c ∈ l, 0 ≤ c := fun c hc => by
  rcases h.kinds c hc with q | q | q
  · have := attr_range q; omega
  · omega
  · omega
theorem nums_again {l : List Int} (h : Shape l) : parseNums [] (numsP l) = l := by
  have e1 := proc_all l [] (numsP l).length ([], []) h.kind (Nat.le_refl _)
  rw [List.nil_append, List.length_nil] at e1
  have hr : Rising (parseNums [] (numsP l)) := rising_procReg _ _ _ _ (rising_proc256 _ _ _ _ List.Pairwise.nil)
  refine Rising.ext hr h.rising fun x => ?_
  unfold parseNums
  rw [e1]
  dsimp only
  rw [reg_all _ l 0 _ h.kind (fun j _ => by rw [mem_idxAll]; simp), mem_reg l _ x h.kind, mem_col l [] x (fun c hc => by simp at hc) (fun a ha b hb => by
    rcases ha with ha | ha
    · simp at ha
    · rcases hb with hb | hb
      · simp at hb
      · exact h.fore a ha b hb) (fun a ha b hb => by
    rcases ha with ha | ha
    · simp at ha
    · rcases hb with hb | hb
      · simp at hb
      · exact h.back a ha b hb)]
  constructor
  · rintro ((q | q) | q)
    · simp at q
    · exact q.1
    · exact q.1
  · intro q
    by_cases h1 : foreB x ∨ backB x
    · exact Or.inl (Or.inr ⟨q, h1⟩)
    · exact Or.inr ⟨q, fun g => h1 (Or.inl g), fun g => h1 (Or.inr g)⟩
theorem numsP_cons {l : List Int} (h : l ≠ []) : ∃ n ns, numsP l = n :: ns := by
  cases l with
  | nil => exact absurd rfl h
  | cons c r =>
    cases e : numsOne c with
    | nil => exact absurd e (numsOne_ne c)
    | cons n t => exact ⟨n, t ++ numsP r, by show numsOne c ++ numsP r = _; rw [e]; rfl⟩
/-- A new parser that is given the sequence that is told. -/
theorem seq_again {l : List Int} (h : Shape l) (hl : l.length ≤ 100) : consumeAll fresh (chars (seqP l)) = ⟨l, false, 0, []⟩ := by
  by_cases h0 : l = []
  · subst h0; rfl
  · obtain ⟨n, ns, hn⟩ := numsP_cons h0
    have hz := numsP_len l h.kind
    rw [hn, tail_nums (by simp), List.length_cons] at hz
    have e := seq_nums (p := fresh) rfl n ns (by omega)
    rw [← hn, ← seqP_nums h0 h.pos] at e
    rw [e]
    show (⟨parseNums [] (numsP l), false, 0, []⟩ : PS) = _
    rw [nums_again h]
theorem opP_len (l : List Int) (o : Op) : (opP l o).length ≤ l.length + 1 := by
  unfold opP
  repeat' split
  · exact length_insC _ _
  · simp
  · exact len_code _ _
  · exact Nat.le_trans (len_std _ _) (len_256 _ _ _)
  · exact Nat.le_trans (len_std _ _) (len_256 _ _ _)
theorem ops_len : ∀ (l : List Op) (codes : List Int), (l.foldl opP codes).length ≤ codes.length + l.length
  | [], _ => Nat.le_refl _
  | o :: l, codes => by
    have := ops_len l (opP codes o)
    have := opP_len codes o
    rw [List.foldl_cons, List.length_cons]
    omega
theorem seqP_ascii {l : List Int} (h : ∀ c ∈ l, 0 ≤ c) : ∀ b ∈ seqP l, b.toNat < 128 := by
  intro b hb
  by_cases h0 : l = []
  · subst h0; simp [seqP] at hb
  · rw [seqP_nums h0 h] at hb
    simp only [List.mem_append, List.mem_cons, List.not_mem_nil, or_false] at hb
    rcases hb with (hb | hb) | hb
    · rcases hb with rfl | rfl <;> decide
    · exact (numsT_ok _ b hb).1
    · subst hb; decide
theorem seqP_len {l : List Int} (h : ∀ c ∈ l, kindB c) : (seqP l).length ≤ 15 * l.length + 3 := by
  by_cases h0 : l = []
  · subst h0; simp [seqP]
  · have hp : ∀ c ∈ l, 0 ≤ c := fun c hc => by
      rcases h c hc with q | q | q
      · have := attr_range q; omega
      · unfold foreB at q; omega
      · unfold backB at q; omega
    obtain ⟨n, ns, hn⟩ := numsP_cons h0
    have hz := numsP_len l h
    rw [hn, tail_nums (by simp), ← hn, List.length_cons] at hz
    rw [seqP_nums h0 hp]
    simp only [List.length_append, List.length_cons, List.length_nil]
    omega
/-- One color of 256. -/
theorem one_256 {o : Op} (hk : o.kind = 3 ∨ o.kind = 4) (hn : 0 ≤ o.n ∧ o.n ≤ 255) :
    opP [] o = [if o.kind = 3 then 1000 + o.n else 2000 + o.n] ∧ seqP (opP [] o) = opSeq o := by
  have e1 : opP [] o = [if o.kind = 3 then 1000 + o.n else 2000 + o.n] := by
    have hr : opRightB o = true := by
      unfold opRightB
      rw [if_neg (by omega), if_neg (by omega), if_neg (by omega), if_pos (by omega)]
      simp
      omega
    refine Rising.ext (Shape.nil.op hr).rising (List.pairwise_singleton _ _) fun x => ?_
    unfold opP
    rw [if_neg (by omega), if_neg (by omega), if_neg (by omega)]
    rcases hk with hk | hk
    · rw [if_pos hk, mem_std, mem_256 hn]
      simp [hk]
      omega
    · rw [if_neg (by omega), mem_std, mem_256 hn]
      simp [hk]
      omega
  refine ⟨e1, ?_⟩
  have h38 : seqP [1000 + o.n] = [27, 91, 51, 56, 59, 53, 59] ++ codeL o.n ++ [109] := by
    rw [seqP_nums (by simp) (by intro c hc; simp at hc; omega)]
    have e : numsP [1000 + o.n] = [38, 5, o.n.toNat] := by
      show numsOne (1000 + o.n) ++ [] = _
      unfold numsOne
      rw [if_pos (by omega), List.append_nil, show 1000 + o.n - 1000 = o.n by omega]
    rw [e, numsT_three, dec38]
    simp [codeL]
  have h48 : seqP [2000 + o.n] = [27, 91, 52, 56, 59, 53, 59] ++ codeL o.n ++ [109] := by
    rw [seqP_nums (by simp) (by intro c hc; simp at hc; omega)]
    have e : numsP [2000 + o.n] = [48, 5, o.n.toNat] := by
      show numsOne (2000 + o.n) ++ [] = _
      unfold numsOne
      rw [if_neg (by omega), if_pos (by omega), List.append_nil, show 2000 + o.n - 2000 = o.n by omega]
    rw [e, numsT_three, dec48]
    simp [codeL]
  rw [e1]
  unfold opSeq
  rcases hk with hk | hk
  · rw [if_pos hk, if_neg (show ¬ o.kind = 1 by omega), if_pos hk]
    exact h38
  · rw [if_neg (show ¬ o.kind = 3 by omega), if_neg (show ¬ o.kind = 1 by omega), if_neg (show ¬ o.kind = 3 by omega), if_pos hk]
    exact h48
end Go.Proofs.YtlclmpiocbkabaaGreatDoor
