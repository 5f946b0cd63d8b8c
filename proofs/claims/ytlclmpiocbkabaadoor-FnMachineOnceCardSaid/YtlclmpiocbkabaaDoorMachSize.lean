/- Plain laws: how many codes the parser can hold behind so many characters. No condition. -/
import Derived.Test.YtlclmpiocbkabaaDoorMachPlain
import Derived.Test.YtlclmpiocbkabaaDoorCut
namespace Go.Proofs.YtlclmpiocbkabaaDoor
open Go.RowKit
set_option linter.unusedVariables false
set_option linter.unusedSimpArgs false

theorem encR_len (r : Int) : (Lib.encodeRune r).length ≤ 4 := by
  rw [← Lib.runeCells_length]
  exact (by simpa [Lib.runeCells_length, Lib.encodeRune] using (Lib.encodeRuneZ_length r).2)
theorem stripE_le (kind : Int) (s : ByteArray) : (stripE kind s).size ≤ s.size := by
  unfold stripE
  split
  · exact Nat.le_trans (cut_size _ _ (by decide)) (cut_size _ _ (by decide))
  · exact Nat.le_trans (cut_size _ _ (by decide)) (cut_size _ _ (by decide))
theorem splitM_len (x : UInt8) : ∀ l : List UInt8, (splitL [x] l).length ≤ l.length + 1 ∧ ∀ y ∈ splitL [x] l, y.length ≤ l.length
  | [] => by rw [splitL_nil]; simp
  | y :: t => by
    obtain ⟨i1, i2⟩ := splitM_len x t
    cases h : ([x] : List UInt8).isPrefixOf (y :: t) with
    | true =>
      rw [splitL_hit h]
      simp only [List.length_cons, List.length_nil, Nat.zero_add, Nat.sub_self, List.drop_zero]
      refine ⟨by omega, fun z hz => ?_⟩
      rcases List.mem_cons.1 hz with rfl | hz
      · simp
      · have := i2 z hz; omega
    | false =>
      rw [splitL_miss h]
      cases hs : splitL [x] t with
      | nil => simp
      | cons a r =>
        rw [hs] at i1 i2
        simp only [List.length_cons] at i1 ⊢
        refine ⟨by omega, fun z hz => ?_⟩
        rcases List.mem_cons.1 hz with rfl | hz
        · have := i2 a (by simp); simp; omega
        · have := i2 z (by simp [hz]); omega
theorem codesOf_le (s : ByteArray) : (codesOf s).length ≤ s.size + 1 := by
  unfold codesOf
  rw [List.length_map]
  have := (splitM_len 59 (bl s)).1
  rw [bl_size] at this
  exact this
theorem len_parse (l : List Int) (s : ByteArray) (kind : Int) : (parseSeq l s kind).length ≤ l.length + 2 * (s.size + 1) := by
  unfold parseSeq
  dsimp only
  have h1 := codesOf_le (stripE kind s)
  have h2 := stripE_le kind s
  have h3 := (len_proc256 (codesOf (stripE kind s)) (codesOf (stripE kind s)).length 0 (l, [])).1
  have h4 := len_procReg (proc256 (codesOf (stripE kind s)) (codesOf (stripE kind s)).length 0 (l, [])).2 (codesOf (stripE kind s)) 0 (proc256 (codesOf (stripE kind s)) (codesOf (stripE kind s)).length 0 (l, [])).1
  dsimp only at h3
  omega
/-- Codes, and twice what is in the buffer. -/
def weight (p : PS) : Nat := p.codes.length + 2 * p.buf.length
theorem weight_begun (p : PS) (r : Int) : weight (begun p r) ≤ weight p ∧ (begun p r).buf.length ≤ p.buf.length := by
  unfold begun weight
  repeat' split
  all_goals (constructor <;> (try simp only [List.length_nil]) <;> omega)
theorem weight_reset (p : PS) : weight p.reset ≤ weight p ∧ p.reset.buf.length = 0 := by
  show p.codes.length + 2 * 0 ≤ p.codes.length + 2 * p.buf.length ∧ 0 = 0
  omega
theorem weight_parse (p : PS) : weight p.parse.reset ≤ weight p + 2 ∧ p.parse.reset.buf.length = 0 := by
  have h := len_parse p.codes ⟨p.buf.toArray⟩ p.kind
  have hs : (⟨p.buf.toArray⟩ : ByteArray).size = p.buf.length := by rw [← bl_size]
  rw [hs] at h
  show (parseSeq p.codes ⟨p.buf.toArray⟩ p.kind).length + 2 * 0 ≤ p.codes.length + 2 * p.buf.length + 2 ∧ 0 = 0
  omega
theorem weight_close (p : PS) (r : Int) : weight (closeP p r) ≤ weight p + 2 ∧ (closeP p r).buf.length ≤ p.buf.length := by
  have h1 := weight_reset p
  have h2 := weight_parse p
  unfold closeP
  repeat' split
  all_goals omega
theorem weight_consume (p : PS) (r : Int) : weight (consume p r) ≤ weight p + 10 ∧ (consume p r).buf.length ≤ p.buf.length + 4 := by
  have h1 := weight_begun p r
  unfold consume
  split
  · have h2 := weight_close (grownP (begun p r) r) r
    have h3 : weight (grownP (begun p r) r) ≤ weight (begun p r) + 8 ∧ (grownP (begun p r) r).buf.length ≤ (begun p r).buf.length + 4 := by
      have := encR_len r
      unfold weight grownP
      simp only [List.length_append]
      omega
    omega
  · omega
theorem weight_all : ∀ (rs : List Int) (p : PS), weight (consumeAll p rs) ≤ weight p + 10 * rs.length ∧ (consumeAll p rs).buf.length ≤ p.buf.length + 4 * rs.length
  | [], p => ⟨Nat.le_refl _, Nat.le_refl _⟩
  | r :: rs, p => by
    have h1 := weight_consume p r
    have h2 := weight_all rs (consume p r)
    show weight (consumeAll (consume p r) rs) ≤ _ ∧ (consumeAll (consume p r) rs).buf.length ≤ _
    rw [List.length_cons]
    omega
end Go.Proofs.YtlclmpiocbkabaaDoor
