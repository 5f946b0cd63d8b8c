/- The codes that are on, as a list of numbers that rise; the program's map that holds them. Conditions: as each law says. -/
import Derived.Test.YtlclmpiocbkabaaDoorRows
import Derived.Maps.OwnSet
import Derived.Maps.RangeWalk
import Derived.WalkKit
import Derived.Lib.Hide
namespace Go.Proofs.YtlclmpiocbkabaaDoor
open Go.RowKit Go.Maps
set_option linter.unusedVariables false

/-! ### plain -/
def putC (x : Int) : List Int → List Int
  | [] => [x]
  | y :: r => if x < y then x :: y :: r else y :: putC x r
def delC (x : Int) (l : List Int) : List Int := l.filter fun y => !(y == x)
def insC (x : Int) (l : List Int) : List Int := putC x (delC x l)
def Rising (l : List Int) : Prop := l.Pairwise (· < ·)
theorem mem_putC {x z : Int} : ∀ {l : List Int}, z ∈ putC x l ↔ z = x ∨ z ∈ l
  | [] => by simp [putC]
  | y :: r => by
    rw [putC]
    split
    · simp
    · rw [List.mem_cons, mem_putC (l := r), List.mem_cons]
      constructor
      · rintro (h | h | h)
        · exact Or.inr (Or.inl h)
        · exact Or.inl h
        · exact Or.inr (Or.inr h)
      · rintro (h | h | h)
        · exact Or.inr (Or.inl h)
        · exact Or.inl h
        · exact Or.inr (Or.inr h)
theorem mem_delC {x z : Int} {l : List Int} : z ∈ delC x l ↔ z ∈ l ∧ z ≠ x := by simp [delC]
theorem mem_insC {x z : Int} {l : List Int} : z ∈ insC x l ↔ z = x ∨ z ∈ l := by
  unfold insC
  rw [mem_putC, mem_delC]
  constructor
  · rintro (h | ⟨h, _⟩)
    · exact Or.inl h
    · exact Or.inr h
  · rintro (h | h)
    · exact Or.inl h
    · by_cases e : z = x
      · exact Or.inl e
      · exact Or.inr ⟨h, e⟩
theorem Rising.filter {l : List Int} (h : Rising l) (p : Int → Bool) : Rising (l.filter p) := List.Pairwise.filter p h
theorem Rising.put {x : Int} : ∀ {l : List Int}, Rising l → x ∉ l → Rising (putC x l)
  | [], _, _ => List.pairwise_singleton _ _
  | y :: r, h, hx => by
    obtain ⟨h1, h2⟩ := List.pairwise_cons.1 h
    have hxy : x ≠ y := fun e => hx (by simp [e])
    rw [putC]
    by_cases hlt : x < y
    · rw [if_pos hlt]
      refine List.pairwise_cons.2 ⟨fun z hz => ?_, h⟩
      rcases List.mem_cons.1 hz with e | hz
      · rw [e]; exact hlt
      · have := h1 z hz; omega
    · rw [if_neg hlt]
      refine List.pairwise_cons.2 ⟨fun z hz => ?_, Rising.put h2 (fun hr => hx (by simp [hr]))⟩
      rcases mem_putC.1 hz with e | hz
      · omega
      · exact h1 z hz
theorem Rising.ins {l : List Int} (h : Rising l) (x : Int) : Rising (insC x l) := (h.filter _).put (fun hx => (mem_delC.1 hx).2 rfl)
theorem Rising.del {l : List Int} (h : Rising l) (x : Int) : Rising (delC x l) := h.filter _
theorem length_putC (x : Int) : ∀ l : List Int, (putC x l).length = l.length + 1
  | [] => rfl
  | y :: r => by rw [putC]; split <;> simp [length_putC x r]
theorem length_delC (x : Int) (l : List Int) : (delC x l).length ≤ l.length := List.length_filter_le _ _
theorem length_insC (x : Int) (l : List Int) : (insC x l).length ≤ l.length + 1 := by
  unfold insC; rw [length_putC]; have := length_delC x l; omega
/-- Two lists that rise and have the same numbers are one. -/
theorem Rising.ext : ∀ {a b : List Int}, Rising a → Rising b → (∀ x, x ∈ a ↔ x ∈ b) → a = b
  | [], [], _, _, _ => rfl
  | [], y :: r, _, _, h => absurd ((h y).2 (by simp)) (by simp)
  | x :: r, [], _, _, h => absurd ((h x).1 (by simp)) (by simp)
  | x :: a, y :: b, ha, hb, h => by
    obtain ⟨a1, a2⟩ := List.pairwise_cons.1 ha
    obtain ⟨b1, b2⟩ := List.pairwise_cons.1 hb
    have e : x = y := by
      have h1 := (h x).1 (by simp)
      have h2 := (h y).2 (by simp)
      rcases List.mem_cons.1 h1 with e | h1
      · exact e
      · rcases List.mem_cons.1 h2 with e | h2
        · exact e.symm
        · have := b1 x h1; have := a1 y h2; omega
    subst e
    congr 1
    refine Rising.ext a2 b2 fun z => ⟨fun hz => ?_, fun hz => ?_⟩
    · rcases List.mem_cons.1 ((h z).1 (by simp [hz])) with e | h1
      · have := a1 z hz; omega
      · exact h1
    · rcases List.mem_cons.1 ((h z).2 (by simp [hz])) with e | h1
      · have := b1 z hz; omega
      · exact h1

/-! ### as the program's map reads -/
abbrev DU := DataW Unit
def codeE (x : Int) : Lit × DU := (.int .i64 x, .lit (.bool true))
def codesD (l : List Int) : DU := .map (l.map codeE)
theorem same_code (x y : Int) : (Lit.int .i64 y).sameKey (.int .i64 x) = (y == x) := by
  by_cases h : y = x
  · subst h; simp [Lit.sameKey]
  · have : (y == x) = false := by rw [beq_eq_false_iff_ne]; exact h
    rw [this]; simp [Lit.sameKey, h]
theorem insert_codes (x : Int) : ∀ l : List Int, DataW.insert (codeE x) (l.map codeE) = (putC x l).map codeE
  | [] => rfl
  | y :: r => by
    rw [List.map_cons, DataW.insert, putC, insert_codes x r]
    have e : (codeE x).1.before (codeE y).1 = decide (x < y) := rfl
    rw [e]
    by_cases h : x < y
    · rw [if_pos (decide_eq_true h), if_pos h]; rfl
    · rw [if_neg (by rw [decide_eq_false h]; simp), if_neg h]; rfl
theorem filter_codes (x : Int) (l : List Int) : (l.map codeE).filter (fun p => !p.1.sameKey (.int .i64 x)) = (delC x l).map codeE := by
  unfold delC
  rw [List.filter_map]
  congr 1
  apply List.filter_congr
  intro y _
  show (!(Lit.int .i64 y).sameKey (.int .i64 x)) = _
  rw [same_code]
theorem put_codes (x : Int) (l : List Int) : (codesD l).put (.int .i64 x) (.lit (.bool true)) = codesD (insC x l) := by
  show DataW.map (DataW.insert (codeE x) ((l.map codeE).filter fun p => !p.1.sameKey (.int .i64 x))) = _
  rw [filter_codes, insert_codes]; rfl
theorem del_codes (x : Int) (l : List Int) : (codesD l).del (.int .i64 x) = codesD (delC x l) := by
  show DataW.map ((l.map codeE).filter fun p => !p.1.sameKey (.int .i64 x)) = _
  rw [filter_codes]; rfl
theorem size_codes (l : List Int) : Maps.size (codesD l) = l.length := by show (l.map codeE).length = _; rw [List.length_map]
theorem has_codes (x : Int) (l : List Int) : Maps.has (codesD l) (.int .i64 x) = decide (x ∈ l) := by
  show (l.map codeE).any (fun p => p.1.sameKey (.int .i64 x)) = _
  induction l with
  | nil => rfl
  | cons y r ih =>
    rw [List.map_cons, List.any_cons, ih]
    show ((Lit.int .i64 y).sameKey (.int .i64 x) || _) = _
    rw [same_code]
    by_cases h : x = y
    · subst h; simp
    · have h1 : (y == x) = false := by rw [beq_eq_false_iff_ne]; exact fun e => h e.symm
      simp [h1, h]
theorem at_codes (x : Int) (l : List Int) : (codesD l).atKey (.int .i64 x) (.lit (.bool false)) = .lit (.bool (decide (x ∈ l))) := by
  induction l with
  | nil => rfl
  | cons y r ih =>
    unfold DataW.atKey codesD at ih ⊢
    dsimp only at ih ⊢
    rw [List.map_cons, List.find?_cons]
    have e : (codeE y).1.sameKey (.int .i64 x) = (y == x) := same_code x y
    rw [e]
    by_cases h : y = x
    · subst h; simp [codeE]
    · have h1 : (y == x) = false := by rw [beq_eq_false_iff_ne]; exact h
      rw [h1]
      dsimp only
      rw [ih]
      simp
      exact fun e => absurd e.symm h
theorem at_codes_in {x : Int} {l : List Int} {z y : DU} (h : (codesD l).atKey (.int .i64 x) z = y) (hx : x ∈ l) : y = .lit (.bool true) := by
  rw [← h]
  unfold DataW.atKey codesD
  dsimp only
  have : ∃ p, (l.map codeE).find? (fun p => p.1.sameKey (.int .i64 x)) = some p := by
    apply Option.isSome_iff_exists.1
    exact List.find?_isSome.2 ⟨codeE x, List.mem_map.2 ⟨x, hx, rfl⟩, by rw [show (codeE x).1 = .int .i64 x from rfl, same_code]; simp⟩
  obtain ⟨p, hp⟩ := this
  rw [hp]
  obtain ⟨y, _, rfl⟩ := List.mem_map.1 (List.mem_of_find?_eq_some hp)
  rfl

/-! ### the laws over the program -/
theorem lawInt : Keyed Tryd.prog 3 := int_keyed Tryd.underlying3
theorem zeroBool (w : World) : (zeroValue 4).run Tryd.prog w = .ok (.bool false) w := by kernel_rfl
/-- Block b is a map that holds these codes. -/
def SetAt (w : World) (b : Nat) (l : List Int) : Prop := w.ownsMap Tryd.prog 3 (plainElem (H := Unit) Tryd.prog 4) b l.length (codesD l)
theorem SetAt.lt {w : World} {b : Nat} {l : List Int} (h : SetAt w b l) : b < w.heap.size := World.ownsMap.lt h
theorem SetAt.made (w : World) : SetAt (w.alloc (.map #[] 0)) w.heap.size [] := World.ownsMap_made _ _ _ _
theorem SetAt.kept {w w' : World} {b : Nat} {l : List Int} {row : Option Nat} (h : SetAt w b l) (hg : w.grownBy w' row) (hne : some b ≠ row) : SetAt w' b l := World.ownsMap.kept h hg hne
theorem SetAt.alloc {w : World} {b : Nat} {l : List Int} (h : SetAt w b l) (o : Obj) : SetAt (w.alloc o) b l := World.ownsMap.alloc h o
theorem SetAt.same {w w' : World} {b : Nat} {l : List Int} (h : SetAt w b l) (hk : w'.heap[b]? = w.heap[b]?) : SetAt w' b l := by
  obtain ⟨es, clock, hb, r⟩ := h
  exact ⟨es, clock, hk.trans hb, r⟩
theorem SetAt.below {w w' : World} {B b : Nat} {l : List Int} (h : SetAt w b l) (hb : Below B w w') (hB : b < B) : SetAt w' b l := h.same (hb.block b hB)
theorem SetAt.exact {w : World} {b n : Nat} {l : List Int} (h : w.ownsMap Tryd.prog 3 (plainElem (H := Unit) Tryd.prog 4) b n (codesD l)) : SetAt w b l := by
  obtain ⟨es, clock, hb, F, hs, hD⟩ := h
  refine ⟨es, clock, hb, F, ?_, hD⟩
  have e : l.length = es.size := by
    have := congrArg Maps.size hD
    rw [size_codes] at this
    rw [this]
    simp [Maps.size, length_sorted]
  omega

section
variable {w : World} {ops : Array Oper} {rest : List Oper} {o : Oper} {a : Act} {Q : Exit → Act → World → Prop} {b : Nat} {l : List Int}
theorem elemTrue : plainElem (H := Unit) Tryd.prog 4 (.bool true) = some (.lit (.bool true), []) := plainElem_bool Tryd.underlying4 true
set_option maxRecDepth 100000 in
theorem wpList_set_codes (hg : o.guard = none) (m x v : Operand) (t : TypeId) (hop : o.op = Op.mapUpdate t m x v) (ht : Tryd.prog.underlying t = some (.map 3 4)) (b : Nat) (l : List Int)
    (hm : a.eval m = .map (some b)) (h : SetAt w b l) (hn : l.length < maxLen) (y : Int) (hx : a.eval x = .int .i64 y) (hv : a.eval v = .bool true) (hwf : (Lit.int .i64 y).wf = true)
    (hK : ∀ w', SetAt w' b (insC y l) → w.grownBy w' (some b) → w'.heap.size = w.heap.size → wpList Tryd.prog ops Q rest (a.put o.dst undef) w') :
    wpList Tryd.prog ops Q (o :: rest) a w := by
  refine wpList_plain hg fun K' hK' => ?_
  obtain ⟨w', hrun, r1, r2⟩ := World.ownsMap.store h lawInt ht hn (keyOf_int_mk Tryd.underlying3 hwf) elemTrue
  unfold Oper.wp
  simp [execOp, hop, hm, hx, hv, hrun, Result.andThen]
  refine hK' _ _ (hK w' ?_ r2.grown ?_)
  · rw [put_codes] at r1; exact SetAt.exact r1
  · obtain ⟨es, clock, es', clock', _, rfl⟩ := r2
    simp [ChangeMaps.setBlock]
set_option maxRecDepth 100000 in
theorem wpList_del_codes (hg : o.guard = none) (m x : Operand) (t : TypeId) (hop : o.op = Op.call { callee := Callee.builtin Builtin.delete, args := #[m, x], argTypes := #[t, 3] }) (ht : Tryd.prog.underlying t = some (.map 3 4)) (b : Nat) (l : List Int)
    (hm : a.eval m = .map (some b)) (h : SetAt w b l) (y : Int) (hx : a.eval x = .int .i64 y) (hwf : (Lit.int .i64 y).wf = true)
    (hK : ∀ w', SetAt w' b (delC y l) → w.grownBy w' (some b) → w'.heap.size = w.heap.size → wpList Tryd.prog ops Q rest (a.put o.dst (.tuple #[])) w') :
    wpList Tryd.prog ops Q (o :: rest) a w := by
  refine wpList_plain hg fun K' hK' => ?_
  obtain ⟨w', hrun, r1, r2⟩ := World.ownsMap.drop h lawInt ht (keyOf_int_mk Tryd.underlying3 hwf) o.type
  unfold Oper.wp
  simp [execOp, hop, resolve, invoke, builtin, hm, hx, hrun, Result.andThen]
  refine hK' _ _ (hK w' ?_ r2.grown ?_)
  · rw [del_codes] at r1; exact SetAt.exact r1
  · obtain ⟨es, clock, es', clock', _, rfl⟩ := r2
    simp [ChangeMaps.setBlock]
set_option maxRecDepth 100000 in
theorem wpList_has_codes (hg : o.guard = none) (m x : Operand) (t : TypeId) (hop : o.op = Op.lookup t m x false) (ht : Tryd.prog.underlying t = some (.map 3 4)) (b : Nat) (l : List Int)
    (hm : a.eval m = .map (some b)) (h : SetAt w b l) (y : Int) (hx : a.eval x = .int .i64 y) (hwf : (Lit.int .i64 y).wf = true)
    (hK : wpList Tryd.prog ops Q rest (a.put o.dst (.bool (decide (y ∈ l)))) w) :
    wpList Tryd.prog ops Q (o :: rest) a w := by
  refine wpList_plain hg fun K' hK' => ?_
  obtain ⟨v, ps, hrun, hv⟩ := World.ownsMap.lookup h lawInt ht (zeroBool w) (plainElem_bool Tryd.underlying4 false) (keyOf_int_mk Tryd.underlying3 hwf)
  rw [at_codes] at hv
  have e : v = .bool (decide (y ∈ l)) := by
    unfold plainElem at hv
    rw [Tryd.underlying4] at hv
    cases v <;> simp at hv
    rw [hv.1]
  unfold Oper.wp
  simp [execOp, hop, hm, hx, hrun, Result.andThen]
  rw [e]
  exact hK' _ _ hK
set_option maxRecDepth 100000 in
theorem wpList_len_codes (hg : o.guard = none) (m : Operand) (t : TypeId) (hop : o.op = Op.call { callee := Callee.builtin Builtin.len, args := #[m], argTypes := #[t] }) (ht : Tryd.prog.underlying t = some (.map 3 4)) (b : Nat) (l : List Int)
    (hm : a.eval m = .map (some b)) (h : SetAt w b l) (hK : wpList Tryd.prog ops Q rest (a.put o.dst (.int .i64 l.length)) w) :
    wpList Tryd.prog ops Q (o :: rest) a w := by
  refine wpList_plain hg fun K' hK' => ?_
  have hrun := World.ownsMap.len h ht o.type
  rw [size_codes] at hrun
  unfold Oper.wp
  simp [execOp, hop, resolve, invoke, builtin, hm, hrun, Result.andThen]
  exact hK' _ _ hK
end
end Go.Proofs.YtlclmpiocbkabaaDoor
