/- Plain: the parser of escape sequences, as a machine over lists. -/
import Derived.Test.YtlclmpiocbkabaaGreatDoorCodes
import Derived.Test.YtlclmpiocbkabaaGreatDoorSplit
import Derived.Test.YtlclmpiocbkabaaGreatDoorUtf
import Derived.Test.YtlclmpiocbkabaaGreatDoorItoa
import Derived.Lib.SpaceU
import Derived.Lib.RuneBytes
namespace Go.Proofs.YtlclmpiocbkabaaGreatDoor
open Go.RowKit
set_option linter.unusedVariables false

/-! ### numbers out of texts -/
inductive NumR where
  | ok (n : Nat)
  | range
  | noNum
def digitB (b : UInt8) : Bool := decide (48 ≤ b.toNat ∧ b.toNat ≤ 57)
/-- The digits of a number, below 2^64. -/
def numL : Nat → List UInt8 → NumR
  | n, [] => .ok n
  | n, b :: t => if digitB b = true then (if n > (18446744073709551615 - (b.toNat - 48)) / 10 then .range else numL (n * 10 + (b.toNat - 48)) t) else .noNum
def uintL (l : List UInt8) : NumR := if l = [] then .noNum else numL 0 l
/-- What Atoi reads (none: it is no number that fits). -/
def atoiL (l : List UInt8) : Option Int :=
  match l with
  | [] => none
  | b :: t => match uintL (if b = 45 ∨ b = 43 then t else l) with
    | .ok u => if b = 45 then (if u > 9223372036854775808 then none else some (-(u : Int))) else (if u ≥ 9223372036854775808 then none else some (u : Int))
    | _ => none

/-! ### texts -/
def hasAt (p l : List UInt8) : Bool := p.isPrefixOf l
/-- The first place of a text in another one is struck. -/
def cutOne (s p : ByteArray) : ByteArray := if zfind s p 0 < 0 then s else s.extract 0 (zfind s p 0).toNat ++ s.extract ((zfind s p 0).toNat + p.size) s.size
def CSI : List UInt8 := [27, 91]
def OSI : List UInt8 := [27, 93]
def OSI8 : List UInt8 := [27, 93, 56, 59]
def ST : List UInt8 := [27, 92]
def stripE (kind : Int) (s : ByteArray) : ByteArray := if kind = 2 then cutOne (cutOne s ⟨#[27, 93]⟩) ⟨#[92]⟩ else cutOne (cutOne s ⟨#[27, 91]⟩) ⟨#[109]⟩
def codesOf (s : ByteArray) : List (List UInt8) := (splitL [59] (bl s)).map Lib.trimSpaceD

/-! ### codes -/
def delR (a b : Int) (l : List Int) : List Int := l.filter fun y => !(decide (a ≤ y) && decide (y ≤ b))
def clearStd (fg : Bool) (l : List Int) : List Int := if fg = true then delR 90 97 (delR 30 37 l) else delR 100 107 (delR 40 47 l)
def clearAll (fg : Bool) (l : List Int) : List Int := if fg = true then delR 1000 1255 (clearStd true l) else delR 2000 2255 (clearStd false l)
def set256 (b v : Int) (l : List Int) : List Int := (insC (b + v) l).filter fun y => !(decide (b ≤ y) && decide (y ≤ b + 255)) || y == b + v
def procCode (c : Int) (l : List Int) : List Int :=
  if c = 0 then [] else
  if c = 22 then delC 2 (delC 1 l) else
  if c = 23 then delC 3 l else
  if c = 24 then delC 4 l else
  if c = 25 then delC 6 (delC 5 l) else
  if c = 27 then delC 7 l else
  if c = 29 then delC 9 l else
  if c = 39 then clearAll true l else
  if c = 49 then clearAll false l else
  if c < 1000 ∨ 2255 < c then insC c l else l
/-- A color of 256 at a place of the codes: its index, and where its numbers begin. -/
def p256 (cs : List (List UInt8)) (i : Nat) : Option (Int × Int) :=
  match cs[i]?, cs[i + 1]?, cs[i + 2]? with
  | some a, some b, some c =>
    match atoiL a with
    | none => none
    | some n => if n = 38 ∨ n = 48 then (match atoiL b with
        | none => none
        | some m => if m = 5 then (match atoiL c with
            | none => none
            | some v => if 0 ≤ v ∧ v ≤ 255 then some (v, if n = 38 then 1000 else 2000) else none) else none) else none
  | _, _, _ => none
def proc256 (cs : List (List UInt8)) : Nat → Nat → List Int × List Int → List Int × List Int
  | 0, _, st => st
  | f + 1, i, st => if i < cs.length then (match p256 cs i with
      | some (v, b) => proc256 cs f (i + 3) (clearStd (decide (b = 1000)) (set256 b v st.1), insC (i + 2) (insC (i + 1) (insC i st.2)))
      | none => proc256 cs f (i + 1) st) else st
def procReg (idx : List Int) : Nat → List (List UInt8) → List Int → List Int
  | _, [], l => l
  | i, c :: r, l => procReg idx (i + 1) r (if (i : Int) ∈ idx then l else match atoiL c with
      | none => l
      | some n => procCode n l)
def parseSeq (l : List Int) (s : ByteArray) (kind : Int) : List Int :=
  let cs := codesOf (stripE kind s)
  let st := proc256 cs cs.length 0 (l, [])
  procReg st.2 0 cs st.1

/-! ### the parser -/
structure PS where
  codes : List Int
  inE : Bool
  kind : Int
  buf : List UInt8
def PS.reset (p : PS) : PS := { p with inE := false, kind := 0, buf := [] }
def PS.parse (p : PS) : PS := { p with codes := parseSeq p.codes ⟨p.buf.toArray⟩ p.kind }
def stopB (buf : List UInt8) (kind r : Int) : Bool :=
  if OSI8.isPrefixOf buf = true then ST.isSuffixOf buf else (decide (kind = 1) && decide (r = 109)) || (decide (kind = 2) && decide (r = 92))
/-- What the parser is in ahead of the text's growing. -/
def begun (p : PS) (r : Int) : PS :=
  if p.inE = false ∧ r = 27 then { p with inE := true, kind := 0, buf := [] }
  else if p.inE = true ∧ p.kind = 0 then (if r = 91 then { p with kind := 1 } else if r = 93 then { p with kind := 2 } else p)
  else p
def grownP (p : PS) (r : Int) : PS := { p with buf := p.buf ++ Lib.encodeRune r }
def closeP (p : PS) (r : Int) : PS :=
  if 2048 < p.buf.length then p.reset
  else if p.kind = 2 ∧ OSI8.isPrefixOf p.buf = true ∧ r = 7 then p.parse.reset
  else if stopB p.buf p.kind r = true then p.parse.reset
  else p
def consume (p : PS) (r : Int) : PS := if (begun p r).inE = true then closeP (grownP (begun p r) r) r else begun p r
def consumeAll (p : PS) (rs : List Int) : PS := rs.foldl consume p
def fresh : PS := ⟨[], false, 0, []⟩

/-! ### what is kept -/
theorem Rising.delR {l : List Int} (h : Rising l) (a b : Int) : Rising (delR a b l) := h.filter _
theorem Rising.std {l : List Int} (h : Rising l) (fg : Bool) : Rising (clearStd fg l) := by unfold clearStd; split <;> exact (h.delR _ _).delR _ _
theorem Rising.all {l : List Int} (h : Rising l) (fg : Bool) : Rising (clearAll fg l) := by unfold clearAll; split <;> exact (h.std _).delR _ _
theorem Rising.set256 {l : List Int} (h : Rising l) (b v : Int) : Rising (set256 b v l) := (h.ins _).filter _
theorem Rising.code {l : List Int} (h : Rising l) (c : Int) : Rising (procCode c l) := by
  unfold procCode
  repeat' split
  · exact List.Pairwise.nil
  · exact (h.del _).del _
  · exact h.del _
  · exact h.del _
  · exact (h.del _).del _
  · exact h.del _
  · exact h.del _
  · exact h.all _
  · exact h.all _
  · exact h.ins _
  · exact h
theorem rising_proc256 (cs : List (List UInt8)) : ∀ (f i : Nat) (st : List Int × List Int), Rising st.1 → Rising (proc256 cs f i st).1
  | 0, _, _, h => h
  | f + 1, i, st, h => by
    rw [proc256]
    split
    · split
      · exact rising_proc256 cs f _ _ ((h.set256 _ _).std _)
      · exact rising_proc256 cs f _ _ h
    · exact h
theorem rising_procReg (idx : List Int) : ∀ (cs : List (List UInt8)) (i : Nat) (l : List Int), Rising l → Rising (procReg idx i cs l)
  | [], _, _, h => h
  | c :: r, i, l, h => by
    rw [procReg]
    refine rising_procReg idx r (i + 1) _ ?_
    split
    · exact h
    · split
      · exact h
      · exact h.code _
theorem Rising.parse {l : List Int} (h : Rising l) (s : ByteArray) (kind : Int) : Rising (parseSeq l s kind) := rising_procReg _ _ _ _ (rising_proc256 _ _ _ _ h)
theorem rising_consume {p : PS} (h : Rising p.codes) (r : Int) : Rising (consume p r).codes := by
  have hb : Rising (begun p r).codes := by
    unfold begun
    repeat' split
    all_goals exact h
  unfold consume
  split
  · unfold closeP
    repeat' split
    · exact hb
    · exact hb.parse _ _
    · exact hb.parse _ _
    · exact hb
  · exact hb
theorem rising_all : ∀ (rs : List Int) {p : PS}, Rising p.codes → Rising (consumeAll p rs).codes
  | [], _, h => h
  | r :: rs, p, h => rising_all rs (rising_consume h r)

/-! ### sizes, and numbers that fit -/
def Fit (l : List Int) : Prop := ∀ x ∈ l, (Lit.int .i64 x).wf = true
theorem len_filter (p : Int → Bool) (l : List Int) : (l.filter p).length ≤ l.length := List.length_filter_le _ _
theorem len_delR (a b : Int) (l : List Int) : (delR a b l).length ≤ l.length := len_filter _ _
theorem len_std (fg : Bool) (l : List Int) : (clearStd fg l).length ≤ l.length := by
  unfold clearStd
  split
  · exact Nat.le_trans (len_delR _ _ _) (len_delR _ _ _)
  · exact Nat.le_trans (len_delR _ _ _) (len_delR _ _ _)
theorem len_all (fg : Bool) (l : List Int) : (clearAll fg l).length ≤ l.length := by
  unfold clearAll
  split
  · exact Nat.le_trans (len_delR _ _ _) (len_std _ _)
  · exact Nat.le_trans (len_delR _ _ _) (len_std _ _)
theorem len_256 (b v : Int) (l : List Int) : (set256 b v l).length ≤ l.length + 1 := Nat.le_trans (len_filter _ _) (length_insC _ _)
theorem len_code (c : Int) (l : List Int) : (procCode c l).length ≤ l.length + 1 := by
  have h1 := fun x => length_delC x l
  unfold procCode
  repeat' split
  · simp
  · have := length_delC 2 (delC 1 l); have := h1 1; omega
  · have := h1 3; omega
  · have := h1 4; omega
  · have := length_delC 6 (delC 5 l); have := h1 5; omega
  · have := h1 7; omega
  · have := h1 9; omega
  · have := len_all true l; omega
  · have := len_all false l; omega
  · exact length_insC _ _
  · omega
theorem len_proc256 (cs : List (List UInt8)) : ∀ (f i : Nat) (st : List Int × List Int), (proc256 cs f i st).1.length ≤ st.1.length + f ∧ (proc256 cs f i st).2.length ≤ st.2.length + 3 * f
  | 0, _, _ => ⟨by simp [proc256], by simp [proc256]⟩
  | f + 1, i, st => by
    rw [proc256]
    split
    · split
      · next v b e =>
        have := len_proc256 cs f (i + 3) (clearStd (decide (b = 1000)) (set256 b v st.1), insC (i + 2) (insC (i + 1) (insC i st.2)))
        have h1 := len_std (decide (b = 1000)) (set256 b v st.1)
        have h2 := len_256 b v st.1
        have h3 := length_insC ((i : Int) + 2) (insC (i + 1) (insC i st.2))
        have h4 := length_insC ((i : Int) + 1) (insC i st.2)
        have h5 := length_insC (i : Int) st.2
        dsimp only at this
        omega
      · have := len_proc256 cs f (i + 1) st
        omega
    · omega
theorem len_procReg (idx : List Int) : ∀ (cs : List (List UInt8)) (i : Nat) (l : List Int), (procReg idx i cs l).length ≤ l.length + cs.length
  | [], _, _ => by simp [procReg]
  | c :: r, i, l => by
    rw [procReg]
    have := len_procReg idx r (i + 1) (if (i : Int) ∈ idx then l else match atoiL c with | none => l | some n => procCode n l)
    have h2 : (if (i : Int) ∈ idx then l else match atoiL c with | none => l | some n => procCode n l).length ≤ l.length + 1 := by
      split
      · omega
      · split
        · omega
        · exact len_code _ _
    rw [List.length_cons]
    omega
end Go.Proofs.YtlclmpiocbkabaaGreatDoor
