/- Walks of the sequence of some colors and of text.colorize. Condition: sizes below the bounds that are named. -/
import Derived.Test.YtlclmpiocbkabaaDoorEscape
import Derived.Test.YtlclmpiocbkabaaDoorRead
namespace Go.Proofs.YtlclmpiocbkabaaDoor
open Go.RowKit

/-- The sequence of some colors (none of 256). -/
def seqL (l : List Int) : List UInt8 := if l = [] then [] else [27, 91] ++ Lib.join (l.map codeL) [59] ++ [109]

theorem infoStr : (Tryd.prog.info? 9).map (fun i => (i.zero, i.size, i.bytes)) = some (some (.string ⟨#[]⟩), 1, 16) := by kernel_rfl
def strOf (l : List UInt8) : Value := .string ⟨l.toArray⟩
theorem codes_len (l : List Int) (h : ∀ c ∈ l, 0 ≤ c ∧ c < 1000) : (Lib.join (l.map codeL) [59]).length ≤ 5 * l.length := by
  cases l with
  | nil => simp [Lib.join_nil]
  | cons x l =>
    have key : ∀ l : List Int, (∀ c ∈ l, 0 ≤ c ∧ c < 1000) → Lib.lens (l.map codeL) ≤ 4 * l.length := by
      intro l
      induction l with
      | nil => intro _; simp [Lib.lens]
      | cons y l ih =>
        intro h
        have h1 := ih fun c hc => h c (by simp [hc])
        have h2 := decL_len y.toNat (by have := h y (by simp); omega)
        simp only [List.map_cons, Lib.lens, List.sum_cons, List.length_cons, codeL] at *
        omega
    have h3 := key (x :: l) h
    rw [List.map_cons] at h3 ⊢
    rw [Lib.join_length]
    simp at *
    omega

/-- What a text with a color looks like (the sequence q; none: as it is). -/
def paintL (s q : List UInt8) : List UInt8 := if q = [] then s else escL s q
theorem paintL_ba (s q : ByteArray) : (if bl q = [] then s else ⟨(escL (bl s) (bl q)).toArray⟩) = ⟨(paintL (bl s) (bl q)).toArray⟩ := by
  unfold paintL; split
  · exact bl_ext rfl
  · rfl
end Go.Proofs.YtlclmpiocbkabaaDoor
