/- Plain laws: the parser's codes fit 64 bits; its buffer stays short. -/
import Derived.Test.YtlclmpiocbkabaaDoorMachSize
import Derived.Test.YtlclmpiocbkabaaDoorParser2
import Derived.Test.YtlclmpiocbkabaaDoorItoaBig
namespace Go.Proofs.YtlclmpiocbkabaaDoor
open Go.RowKit
set_option linter.unusedVariables false

def All64 (l : List Int) : Prop := ∀ c ∈ l, In64 c
theorem All64.filter {l : List Int} (h : All64 l) (p : Int → Bool) : All64 (l.filter p) := fun c hc => h c (List.mem_filter.1 hc).1
theorem All64.ins {l : List Int} (h : All64 l) {x : Int} (hx : In64 x) : All64 (insC x l) := fun c hc => by
  rcases mem_insC.1 hc with rfl | hc
  · exact hx
  · exact h c hc
theorem All64.std {l : List Int} (h : All64 l) (fg : Bool) : All64 (clearStd fg l) := by unfold clearStd; split <;> exact (h.filter _).filter _
theorem All64.all {l : List Int} (h : All64 l) (fg : Bool) : All64 (clearAll fg l) := by unfold clearAll; split <;> exact (h.std _).filter _
theorem All64.code {l : List Int} (h : All64 l) {c : Int} (hc : In64 c) : All64 (procCode c l) := by
  unfold procCode
  repeat' split
  · exact fun x hx => by simp at hx
  · exact (h.filter _).filter _
  · exact h.filter _
  · exact h.filter _
  · exact (h.filter _).filter _
  · exact h.filter _
  · exact h.filter _
  · exact h.all _
  · exact h.all _
  · exact h.ins hc
  · exact h
theorem in64_proc256 (cs : List (List UInt8)) : ∀ (f i : Nat) (st : List Int × List Int), All64 st.1 → All64 (proc256 cs f i st).1
  | 0, _, _, h => h
  | f + 1, i, st, h => by
    rw [proc256]
    split
    · split
      · next v b e =>
        have hr := p256_range e
        refine in64_proc256 cs f _ _ (All64.std ?_ _)
        refine (h.ins ?_).filter _
        unfold In64
        omega
      · exact in64_proc256 cs f _ _ h
    · exact h
theorem in64_procReg (idx : List Int) : ∀ (cs : List (List UInt8)) (i : Nat) (l : List Int), All64 l → All64 (procReg idx i cs l)
  | [], _, _, h => h
  | c :: r, i, l, h => by
    rw [procReg]
    refine in64_procReg idx r (i + 1) _ ?_
    split
    · exact h
    · split
      · exact h
      · next n e => exact h.code (atoi_range e)
theorem All64.parse {l : List Int} (h : All64 l) (s : ByteArray) (kind : Int) : All64 (parseSeq l s kind) := in64_procReg _ _ _ _ (in64_proc256 _ _ _ _ h)
theorem begun_codes (p : PS) (r : Int) : (begun p r).codes = p.codes := by
  unfold begun
  repeat' split
  all_goals rfl
theorem in64_consume {p : PS} (h : All64 p.codes) (r : Int) : All64 (consume p r).codes := by
  have hb : All64 (begun p r).codes := by rw [begun_codes]; exact h
  unfold consume
  split
  · unfold closeP
    repeat' split
    · exact hb
    · exact hb.parse _ _
    · exact hb.parse _ _
    · exact hb
  · exact hb
theorem in64_all : ∀ (rs : List Int) {p : PS}, All64 p.codes → All64 (consumeAll p rs).codes
  | [], _, h => h
  | r :: rs, p, h => in64_all rs (in64_consume h r)
theorem buf_consume {p : PS} (h : p.buf.length ≤ 2048) (r : Int) : (consume p r).buf.length ≤ 2048 := by
  have h1 := (weight_begun p r).2
  unfold consume
  split
  · unfold closeP
    repeat' split
    · exact Nat.zero_le _
    · exact Nat.zero_le _
    · exact Nat.zero_le _
    · omega
  · omega

/-- What a parser may be ahead of a character. -/
structure Fine (n : Nat) (s : PS) : Prop where
  rising : Rising s.codes
  wide : All64 s.codes
  few : weight s ≤ n
  buf : s.buf.length ≤ 2048
theorem Fine.start : Fine 0 fresh := ⟨List.Pairwise.nil, fun c hc => (by simp [fresh] at hc), by simp [weight, fresh], by simp [fresh]⟩
theorem Fine.step {n : Nat} {s : PS} (h : Fine n s) (r : Int) : Fine (n + 10) (consume s r) :=
  ⟨rising_consume h.rising r, in64_consume h.wide r, by have := (weight_consume s r).1; have := h.few; omega, buf_consume h.buf r⟩
theorem Fine.all {s : PS} : ∀ (rs : List Int) {n : Nat} {s : PS}, Fine n s → Fine (n + 10 * rs.length) (consumeAll s rs)
  | [], _, _, h => h
  | r :: rs, n, s, h => by
    have := Fine.all (s := s) rs (h.step r)
    rw [List.length_cons, show n + 10 * (rs.length + 1) = n + 10 + 10 * rs.length by omega]
    exact this
theorem Fine.more {n m : Nat} {s : PS} (h : Fine n s) (hm : n ≤ m) : Fine m s := ⟨h.rising, h.wide, Nat.le_trans h.few hm, h.buf⟩
end Go.Proofs.YtlclmpiocbkabaaDoor
