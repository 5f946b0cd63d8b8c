/- Plain words on memory: the steps of a parser, and the states that it tells, rows of the program's own. -/
import Derived.Test.YtlclmpiocbkabaaDoorParser9
import Derived.Test.YtlclmpiocbkabaaDoorPtSteps
import Derived.Test.YtlclmpiocbkabaaDoorMachFit
namespace Go.Proofs.YtlclmpiocbkabaaDoor
open Go.RowKit
set_option linter.unusedVariables false

/-! ### steps -/
structure EStep where
  kind : Int
  rune : Int
  text : ByteArray
def stepV (x : EStep) : List Value := [.int .i64 x.kind, .int .i32 x.rune, .string x.text]
def stepsV (l : List EStep) : List Value := l.flatMap stepV
def EStepsAt (w : World) (B : Nat) (A : Option Addr) (n c : Nat) (l : List EStep) : Prop := Rd w B 3 A n c (stepsV l) ∧ l.length = n
theorem stepsV_at : ∀ {l : List EStep} {k : Nat} {x : EStep} (j : Nat), l[k]? = some x → j < 3 → (stepsV l)[k * 3 + j]? = (stepV x)[j]?
  | [], k, x, j, h, _ => by simp at h
  | y :: l, 0, x, j, h, hj => by
    simp at h
    subst h
    show (stepV y ++ stepsV l)[0 * 3 + j]? = _
    rw [List.getElem?_append_left (by simp [stepV]; omega)]
    congr 1
    omega
  | y :: l, k + 1, x, j, h, hj => by
    have ih := stepsV_at (l := l) (k := k) (x := x) j (by simpa using h) hj
    show (stepV y ++ stepsV l)[(k + 1) * 3 + j]? = _
    rw [List.getElem?_append_right (by simp [stepV]; omega)]
    rw [show (k + 1) * 3 + j - (stepV y).length = k * 3 + j by simp [stepV]; omega]
    exact ih
theorem EStepsAt.below {w w' : World} {B n c : Nat} {A : Option Addr} {l : List EStep} (h : EStepsAt w B A n c l) (hb : Below B w w') : EStepsAt w' B A n c l := ⟨h.1.below hb, h.2⟩
theorem EStepsAt.at_ {w : World} {B n c k : Nat} {A : Option Addr} {l : List EStep} (h : EStepsAt w B A n c l) (hk : k < n) :
    ∃ ad x, A = some ad ∧ ad.block < B ∧ l[k]? = some x ∧ w.cell? (ad.add (k * 3)) = some (.int .i64 x.kind) ∧ w.cell? ⟨(ad.add (k * 3)).block, (ad.add (k * 3)).off + 1, none⟩ = some (.int .i32 x.rune) ∧ w.cell? ⟨(ad.add (k * 3)).block, (ad.add (k * 3)).off + 2, none⟩ = some (.string x.text) := by
  obtain ⟨h1, h2⟩ := h
  obtain ⟨ad, e, hb, hc⟩ := h1.cells (by omega)
  have hx : l[k]? = some l[k] := List.getElem?_eq_getElem (by omega)
  refine ⟨ad, l[k], e, hb, hx, ?_, ?_, ?_⟩
  · exact hc (k * 3) _ (stepsV_at 0 hx (by omega))
  · rw [← add_step]; exact hc (k * 3 + (0 + 1)) _ (stepsV_at 1 hx (by omega))
  · rw [← add_step]; exact hc (k * 3 + (1 + 1)) _ (stepsV_at 2 hx (by omega))

/-! ### states -/
structure EState where
  inE : Bool
  opened : Bool
  codes : List Int
  seq : ByteArray
  told : ByteArray
def seqB (l : List Int) : ByteArray := ⟨(seqP l).toArray⟩
def stOf (s : PS) (told : ByteArray) : EState := ⟨s.inE, decide (0 < s.codes.length), s.codes, seqB s.codes, told⟩
def stepP (s : PS) (x : EStep) : PS := if x.kind = 0 then consume s x.rune else if x.kind = 1 then consumeAll s.reset (runes x.text) else s
def toldP (s : PS) (x : EStep) : ByteArray := if x.kind = 1 then seqB (stepP s x).codes else ⟨#[]⟩
def runP (s : PS) (l : List EStep) : PS := l.foldl stepP s
def statesOf : PS → List EStep → List EState
  | _, [] => []
  | s, x :: r => stOf (stepP s x) (toldP s x) :: statesOf (stepP s x) r
theorem statesOf_snoc (x : EStep) : ∀ (l : List EStep) (s : PS), statesOf s (l ++ [x]) = statesOf s l ++ [stOf (stepP (runP s l) x) (toldP (runP s l) x)]
  | [], s => rfl
  | y :: l, s => by
    rw [List.cons_append, statesOf, statesOf, statesOf_snoc x l (stepP s y)]
    rfl
theorem runP_snoc (s : PS) (l : List EStep) (x : EStep) : runP s (l ++ [x]) = stepP (runP s l) x := by simp [runP]
theorem statesOf_len : ∀ (l : List EStep) (s : PS), (statesOf s l).length = l.length
  | [], _ => rfl
  | x :: l, s => by rw [statesOf, List.length_cons, List.length_cons, statesOf_len l]
/-- The cells of a state; its codes are a row of the program's own. -/
def StAt (w : World) (B : Nat) (xs : List Value) (k : Nat) (s : EState) : Prop :=
  ∃ vc, xs[k * 5]? = some (.bool s.inE) ∧ xs[k * 5 + 1]? = some (.bool s.opened) ∧ xs[k * 5 + 2]? = some vc ∧ xs[k * 5 + 3]? = some (.string s.seq) ∧ xs[k * 5 + 4]? = some (.string s.told) ∧ w.ownsRow B 3 1 vc s.codes.length (s.codes.map (Value.int .i64))
def OwnStates (w : World) (B : Nat) (v : Value) (n : Nat) (l : List EState) : Prop :=
  ∃ xs, w.ownsRow B 39 5 v n xs ∧ l.length = n ∧ ∀ k s, l[k]? = some s → StAt w B xs k s

/-- Rows of one kind stand. -/
def KeptE (T : TypeId) (w w' : World) : Prop := ∀ (k : Nat) (cs : Array Value) (fz : Nat × Nat), w.heap[k]? = some (Obj.cells cs T fz) → w'.heap[k]? = some (Obj.cells cs T fz)
theorem KeptE.trans {T : TypeId} {w w1 w2 : World} (h : KeptE T w w1) (g : KeptE T w1 w2) : KeptE T w w2 := fun k cs fz hk => g k cs fz (h k cs fz hk)
theorem KeptE.below {T : TypeId} {w w' : World} (h : Below w.heap.size w w') : KeptE T w w' := fun k cs fz hk => (h.block k (Array.getElem?_eq_some_iff.1 hk).1).trans hk
theorem KeptE.kept {T : TypeId} {w w' : World} {p : Nat} {cs : Array Value} {fr : Nat × Nat} (h : Kept p w w') (hp : w.heap[p]? = some (.cells cs 64 fr)) (h1 : T ≠ 64) (h2 : T ≠ 5) : KeptE T w w' := fun k cs' fz hk => by
  refine h k _ hk ?_ (fun c f e => ?_) (fun es cl e => by cases e)
  · rintro rfl
    rw [hp] at hk
    injection hk with hk
    injection hk with _ hT
    exact h1 hT.symm
  · injection e with _ e
    exact h2 e
theorem own_keptE {w w' : World} {B e size n : Nat} {v : Value} {xs : List Value} (h : w.ownsRow B e size v n xs) (hk : KeptE e w w') : w'.ownsRow B e size v n xs := by
  obtain ⟨g1, g2⟩ := h
  refine ⟨g1, ?_⟩
  rcases g2 with g2 | ⟨g, cap, cur, hv, hg, hh, r⟩
  · exact Or.inl g2
  · exact Or.inr ⟨g, cap, cur, hv, hg, hk g _ _ hh, r⟩
theorem KeptE.grown {T : TypeId} {w w' : World} {B e size n : Nat} {v : Value} {xs : List Value} (h : w.ownsRow B e size v n xs) (hg : w.grownBy w' v.ownBlock) (hne : T ≠ e) : KeptE T w w' := fun k cs fz hk => by
  refine (hg.block k (Array.getElem?_eq_some_iff.1 hk).1 ?_).trans hk
  rcases h.2 with ⟨rfl, _⟩ | ⟨g, cap, cur, rfl, _, hh, _⟩
  · simp [Value.ownBlock]
  · intro he
    have he2 : some k = some g := he
    injection he2 with he2
    subst he2
    rw [hk] at hh
    injection hh with hh
    injection hh with _ hT
    exact hne hT
theorem StAt.keptE {w w' : World} {B k : Nat} {xs : List Value} {s : EState} (h : StAt w B xs k s) (hk : KeptE 3 w w') : StAt w' B xs k s := by
  obtain ⟨vc, h1, h2, h3, h4, h5, h6⟩ := h
  exact ⟨vc, h1, h2, h3, h4, h5, own_keptE h6 hk⟩
theorem StAt.left {w : World} {B k : Nat} {xs : List Value} (ys : List Value) {s : EState} (h : StAt w B xs k s) : StAt w B (xs ++ ys) k s := by
  obtain ⟨vc, h1, h2, h3, h4, h5, h6⟩ := h
  have key : ∀ j v, xs[j]? = some v → (xs ++ ys)[j]? = some v := fun j v hj => by rw [List.getElem?_append_left (List.getElem?_eq_some_iff.1 hj).1]; exact hj
  exact ⟨vc, key _ _ h1, key _ _ h2, key _ _ h3, key _ _ h4, key _ _ h5, h6⟩
theorem OwnStates.keptE {w w' : World} {B n : Nat} {v : Value} {l : List EState} (h : OwnStates w B v n l) (h1 : KeptE 3 w w') (h2 : KeptE 39 w w') : OwnStates w' B v n l := by
  obtain ⟨xs, a, b, c⟩ := h
  exact ⟨xs, own_keptE a h2, b, fun k s hk => (c k s hk).keptE h1⟩
theorem OwnStates.below {w w' : World} {B n : Nat} {v : Value} {l : List EState} (h : OwnStates w B v n l) (hb : Below w.heap.size w w') : OwnStates w' B v n l := h.keptE (KeptE.below hb) (KeptE.below hb)
theorem OwnStates.len {w : World} {B n : Nat} {v : Value} {l : List EState} (h : OwnStates w B v n l) : l.length = n := by
  obtain ⟨xs, _, b, _⟩ := h
  exact b
theorem states_snoc {w w' : World} {B n : Nat} {v' vc : Value} {xs : List Value} {l : List EState} {s : EState} (hl : l.length = n) (hx : xs.length = n * 5) (h3 : ∀ k s, l[k]? = some s → StAt w B xs k s) (hk : KeptE 3 w w')
    (hc : w'.ownsRow B 3 1 vc s.codes.length (s.codes.map (Value.int .i64))) (hown : w'.ownsRow B 39 5 v' (n + 1) (xs ++ [.bool s.inE, .bool s.opened, vc, .string s.seq, .string s.told])) : OwnStates w' B v' (n + 1) (l ++ [s]) := by
  refine ⟨_, hown, by rw [List.length_append, hl]; rfl, fun k t ht => ?_⟩
  rcases Nat.lt_or_ge k n with hkn | hkn
  · rw [List.getElem?_append_left (by omega)] at ht
    exact ((h3 k t ht).keptE hk).left _
  · rw [List.getElem?_append_right (by omega), hl] at ht
    have hkk : k = n := by
      have := (List.getElem?_eq_some_iff.1 ht).1
      simp at this
      omega
    subst hkk
    rw [Nat.sub_self] at ht
    simp at ht
    subst ht
    have key : ∀ j, (xs ++ [.bool s.inE, .bool s.opened, vc, .string s.seq, .string s.told])[k * 5 + j]? = [Value.bool s.inE, .bool s.opened, vc, .string s.seq, .string s.told][j]? := fun j => by
      rw [List.getElem?_append_right (by omega), hx, Nat.add_sub_cancel_left]
    exact ⟨vc, key 0, key 1, key 2, key 3, key 4, hc⟩
/-- What a state reads as. -/
theorem OwnStates.at_ {w : World} {B n k : Nat} {v : Value} {l : List EState} (h : OwnStates w B v n l) (hk : k < n) :
    ∃ ad c s A' c', v = .slice (some ad) n c ∧ l[k]? = some s ∧ w.cell? (ad.add (k * 5)) = some (.bool s.inE) ∧ w.cell? ⟨(ad.add (k * 5)).block, (ad.add (k * 5)).off + 1, none⟩ = some (.bool s.opened) ∧ w.cell? ⟨(ad.add (k * 5)).block, (ad.add (k * 5)).off + 2, none⟩ = some (.slice A' s.codes.length c') ∧ w.cell? ⟨(ad.add (k * 5)).block, (ad.add (k * 5)).off + 3, none⟩ = some (.string s.seq) ∧ w.cell? ⟨(ad.add (k * 5)).block, (ad.add (k * 5)).off + 4, none⟩ = some (.string s.told) ∧ IntsAt w w.heap.size A' s.codes.length c' s.codes := by
  obtain ⟨xs, h1, h2, h3⟩ := h
  obtain ⟨A, c, rfl, hr⟩ := own_rd h1
  obtain ⟨ad, rfl, hb, hc⟩ := hr.cells (by omega)
  have hx : l[k]? = some l[k] := List.getElem?_eq_getElem (by omega)
  obtain ⟨vc, a0, a1, a2, a3, a4, a5⟩ := h3 k _ hx
  obtain ⟨A', c', rfl, hi⟩ := own_rd a5
  refine ⟨ad, c, l[k], A', c', rfl, hx, hc _ _ a0, ?_, ?_, ?_, ?_, hi⟩
  · rw [← add_step]; exact hc _ _ a1
  · rw [← add_step]; exact hc _ _ a2
  · rw [← add_step]; exact hc _ _ a3
  · rw [← add_step]; exact hc _ _ a4
theorem OwnStates.shape {w : World} {B n : Nat} {v : Value} {l : List EState} (h : OwnStates w B v n l) : ∃ A c, v = .slice A n c ∧ n ≤ c ∧ c ≤ 9223372036854775807 := by
  obtain ⟨xs, h1, _⟩ := h
  obtain ⟨A, c, e, hr⟩ := own_rd h1
  exact ⟨A, c, e, hr.cap, hr.small⟩
theorem own_one {w : World} {B e size n : Nat} {v : Value} {xs : List Value} (h : w.ownsRow B e size v n xs) : v.oneCell' = true := by
  rcases h.2 with ⟨rfl, _⟩ | ⟨g, cap, cur, rfl, _⟩ <;> rfl
/-- What a row's growth leaves. -/
theorem kept_other {w w' : World} {B e size n : Nat} {v : Value} {xs : List Value} (h : w.ownsRow B e size v n xs) (hg : w.grownBy w' v.ownBlock) {k : Nat} {ob : Obj} (hk : w.heap[k]? = some ob) (hne : ∀ cs fz, ob ≠ Obj.cells cs e fz) : w'.heap[k]? = some ob := by
  refine (hg.block k (Array.getElem?_eq_some_iff.1 hk).1 ?_).trans hk
  rcases h.2 with ⟨rfl, _⟩ | ⟨g, cap, cur, rfl, _, hh, _⟩
  · simp [Value.ownBlock]
  · intro he
    have he2 : some k = some g := he
    injection he2 with he2
    subst he2
    rw [hk] at hh
    injection hh with hh
    exact hne _ _ hh
theorem PAt.grown_other {w w' : World} {B p e size n : Nat} {v : Value} {xs : List Value} {s : PS} (hP : PAt w B p s) (h : w.ownsRow B e size v n xs) (hg : w.grownBy w' v.ownBlock) (h1 : 64 ≠ e) (h2 : 5 ≠ e) : PAt w' B p s := by
  obtain ⟨vm, vb, hb, hv, ho⟩ := hP.ex
  refine ⟨hP.base, vm, vb, kept_other h hg hb (fun cs fz q => by injection q with _ q; exact h1 q), ?_, own_keptE ho (KeptE.grown h hg h2)⟩
  rcases hv with q | ⟨b, q1, q2, q3⟩
  · exact Or.inl q
  · obtain ⟨es, clock, hq, hr⟩ := q3
    have hq3 : SetAt w b s.codes := ⟨es, clock, hq, hr⟩
    exact Or.inr ⟨b, q1, q2, hq3.same ((kept_other h hg hq (fun cs fz q => by cases q)).trans hq.symm)⟩
theorem infoEscState : (Tryd.prog.info? 39).map (fun i => (i.zero, i.size, i.bytes)) = some (some (.agg #[.bool false, .bool false, .slice none 0 0, .string ⟨#[]⟩, .string ⟨#[]⟩]), 5, 64) := by kernel_rfl
end Go.Proofs.YtlclmpiocbkabaaDoor
