/- Walk of spec.PtSteps: a row of steps, one a character. Condition: the size that is named.
   Walk of spec.PtRising over numbers that rise.
   Plain words on memory: the steps of a parser, and the states that it tells, rows of the program's own.
   Walk of impl.TextParse: the states of a new parser behind each step. Conditions: the library's tables as they are laid; the parser stays small at each step.
   Walks of spec.PtValid and laws.ptStates. Conditions: the library's tables as they are laid; the size that is named.
   Walks of laws.ptLast and laws.FnMachineOnce: it answers true and writes nothing that was there. Condition: the library's tables as they are laid. -/
import Derived.Test.YtlclmpiocbkabaaGreatDoorKnown
import Derived.Test.YtlclmpiocbkabaaGreatDoorSplit
import Derived.Test.YtlclmpiocbkabaaGreatDoorPlain
import Derived.Test.YtlclmpiocbkabaaGreatDoorWords
import Derived.Test.YtlclmpiocbkabaaGreatDoorCodes
import Derived.Deep.QuietTactic
import Derived.BigQuiet
import Derived.Deep.RegionHeld3
import Derived.Test.YtlclmpiocbkabaaGreatDoorParser9
import Derived.Test.YtlclmpiocbkabaaGreatDoorMachAll
import Derived.Laws.Cover4
import Derived.Test.YtlclmpiocbkabaaGreatDoorAlike
import Derived.Test.YtlclmpiocbkabaaGreatDoorPaintPlain
import Derived.Laws.ResultCell
namespace Go.Proofs.YtlclmpiocbkabaaGreatDoor
open Go.RowKit
set_option linter.unusedVariables false
set_option linter.unusedSimpArgs false

theorem own_apart {w w2 : World} {K B e size n : Nat} {v : Value} {xs : List Value} {t : ByteArray} {q : Nat} (h : w.ownsRow B e size v n xs) (hK : w.heap[K]? = some (.stringIter t q)) (ho : ∀ j, j ≠ K → w2.heap[j]? = w.heap[j]?) : w2.ownsRow B e size v n xs := by
  obtain ⟨g1, g2⟩ := h
  refine ⟨g1, ?_⟩
  rcases g2 with g2 | ⟨g, cap, cur, rfl, hg, hh, r⟩
  · exact Or.inl g2
  · refine Or.inr ⟨g, cap, cur, rfl, hg, (ho g ?_).trans hh, r⟩
    rintro rfl
    rw [hK] at hh
    cases hh
theorem own_ne_iter {w : World} {K B e size n : Nat} {v : Value} {xs : List Value} {t : ByteArray} {q : Nat} (h : w.ownsRow B e size v n xs) (hK : w.heap[K]? = some (.stringIter t q)) : some K ≠ v.ownBlock := by
  rcases h.2 with ⟨rfl, _⟩ | ⟨g, cap, cur, rfl, _, hh, _⟩
  · simp [Value.ownBlock]
  · intro he
    have he2 : some K = some g := he
    injection he2 with he2
    subst he2
    rw [hK] at hh
    cases hh
def stepC (r : Int) : List Value := [.int .i64 0, .int .i32 r, .string ⟨#[]⟩]
def stepsC (rs : List Int) : List Value := rs.flatMap stepC
theorem stepsC_snoc (rs : List Int) (r : Int) : stepsC (rs ++ [r]) = stepsC rs ++ stepC r := by simp [stepsC]
theorem infoEscStep : (Tryz.prog.info? 54).map (fun i => (i.zero, i.size, i.bytes)) = some (some (.agg #[.int .i64 0, .int .i32 0, .string ⟨#[]⟩]), 3, 32) := by kernel_rfl

set_option maxRecDepth 100000 in
set_option maxHeartbeats 3000000 in
theorem ptSteps_any (t : ByteArray) (w : World) (ht : t.size ≤ 1000000) :
    Calls Tryz.prog 13 #[.string t] w fun e w' => ∃ v, e = .returned v ∧ w'.ownsRow w.heap.size 54 3 v (runes t).length (stepsC (runes t)) ∧ Below w.heap.size w w' := by
  obtain ⟨i0, hi, hz0, hz1, hz2⟩ := info_parts infoEscStep
  go_enter Tryz.func13, Tryz.ntmps13
  go_wp2
  go_loopw [3] (fun v3 wr => ∃ (pos : Nat) (done : List Int), wr.heap[w.heap.size]? = some (.stringIter t pos) ∧ pos ≤ t.size ∧ wr.ownsRow w.heap.size 54 3 v3 done.length (stepsC done) ∧ Below w.heap.size w wr ∧ Hid (runes t = done ++ runesFrom t pos ∧ done.length ≤ pos)) (fun _ wr => t.size - wr.iterPos w.heap.size)
  case atStart => exact ⟨0, [], World.iter_heap w t 0, Nat.zero_le _, World.ownsRow_nil _ _ _ _, (Below.refl _ w).alloc (Nat.le_refl _) (.stringIter t 0), Lib.hid ⟨rfl, Nat.le_refl _⟩⟩
  case round =>
    obtain ⟨pos, done, hit, hps, hown, hbw, HC⟩ := hrel
    by_cases hlt : pos < t.size
    · obtain ⟨r, pos2, wr2, hr2, h0, h1, hl, hle, hit2, hbw2, hsz, hoth, hnx⟩ := iter_next (P := Tryz.prog) hit hlt hbw (Nat.le_refl _)
      have hown2 := own_apart hown hit hoth
      have HN := Lib.hid (show runes t = (done ++ [r]) ++ runesFrom t pos2 by rw [HC.out.1, hr2, List.append_assoc]; rfl)
      have HM := Lib.hid (show ∀ w1 : World, w1.heap[w.heap.size]? = some (.stringIter t pos2) → t.size - w1.iterPos w.heap.size < t.size - wr.iterPos w.heap.size by
        intro w1 h; have e1 := iterPos_of hit; have e2 := iterPos_of h; omega)
      have hdl : done.length ≤ 1000000 := by have := HC.out.2; omega
      have hszw := hbw2.size
      have hK2 := hit2
      clear hr2 hbw hoth hown hsz hit
      go_wp2_with (at_builtin; go_loud (refine wpList_append_own _ rfl _ _ 37 rfl w.heap.size 54 i0 (.agg #[.int .i64 0, .int .i32 0, .string ⟨#[]⟩]) 3 32 Tryz.underlying37 hi hz0 hz1 hz2 rfl (by decide) _ _ _ rfl (hown2.alloc _) ⟨wr2.heap.size, 0, none⟩ 1 1 (stepC r) rfl rfl (World.news_of_block (cs := #[.int .i64 0, .int .i32 r, .string ⟨#[]⟩]) (heap_alloc_new _ _)) (by intro u hu; simp [stepC] at hu; rcases hu with rfl | rfl | rfl <;> rfl) (by unfold maxLen; omega) (by omega) (by simp; omega) ?_))
      intro v' w3 hown' hgrow _
      have hb3 := (hbw2.alloc hszw (.cells #[.int .i64 0, .int .i32 r, .string ⟨#[]⟩] 54)).grown hgrow (by simp; omega) (fun j hj => (World.ownsRow.lt hown2 _ hj).1)
      have hit3 : w3.heap[w.heap.size]? = some (.stringIter t pos2) := (hgrow.block w.heap.size (by have := (Array.getElem?_eq_some_iff.1 hK2).1; simp; omega) (own_ne_iter hown2 hK2)).trans ((heap_alloc_old wr2 _ (Array.getElem?_eq_some_iff.1 hK2).1).trans hK2)
      have HL := Lib.hid (show (done ++ [r]).length ≤ pos2 by have := HC.out.2; simp; omega)
      clear hgrow hown2 hit2 hK2 hbw2 hnx
      go_wp2
      go_roundw
      case rel =>
        refine ⟨pos2, done ++ [r], hit3, hle, ?_, hb3, Lib.hid ⟨HN.out, HL.out⟩⟩
        rw [stepsC_snoc, List.length_append]
        exact hown'
      case measure => exact HM.out _ hit3
    · have hnx : ∀ ty, (Instr.next (.pointer (some ⟨w.heap.size, 0, none⟩)) true ty).run Tryz.prog wr = _ := fun ty => Lib.run_next_end_at wr w.heap.size t pos ty hit hlt
      have HE := Lib.hid (show runes t = done by rw [HC.out.1, runesFrom_end hlt, List.append_nil])
      clear HC hit
      go_wp2
      go_ret
      refine ⟨_, rfl, ?_, hbw⟩
      rw [HE.out]
      exact hown
end Go.Proofs.YtlclmpiocbkabaaGreatDoor
namespace Go.Proofs.YtlclmpiocbkabaaGreatDoor
open Go.RowKit
set_option linter.unusedVariables false
set_option linter.unusedSimpArgs false

theorem rising_step {l : List Int} (h : Rising l) {k : Nat} {x y : Int} (hx : l[k]? = some x) (hy : l[k + 1]? = some y) : x < y := by
  unfold Rising at h
  rw [List.pairwise_iff_getElem] at h
  obtain ⟨h1, rfl⟩ := List.getElem?_eq_some_iff.1 hx
  obtain ⟨h2, rfl⟩ := List.getElem?_eq_some_iff.1 hy
  exact h k (k + 1) h1 h2 (by omega)
set_option maxRecDepth 100000 in
set_option maxHeartbeats 2000000 in
theorem ptRising_any (A : Option Addr) (n c : Nat) (l : List Int) (w : World) (h : IntsAt w w.heap.size A n c l) (hr : Rising l) (hn : n ≤ 1000000) :
    Calls Tryz.prog 14 #[.slice A n c] w fun e w' => e = .returned (.bool true) ∧ Below w.heap.size w w' := by
  have HR := Lib.hid hr
  clear hr
  go_enter Tryz.func14, Tryz.ntmps14
  go_wp2
  go_loopw [3] (fun v3 wr => ∃ m : Nat, v3 = .int .i64 (m : Int) ∧ 1 ≤ m ∧ m ≤ n + 1 ∧ Below w.heap.size w wr) (fun v3 _ => n + 1 - (intOf v3).toNat)
  case atStart => exact ⟨1, rfl, Nat.le_refl _, by omega, Below.refl _ _⟩
  case round =>
    obtain ⟨m, rfl, hm1, hm, hbw⟩ := hrel
    by_cases hlt : m < n
    · obtain ⟨k, hk⟩ : ∃ k, m = k + 1 := ⟨m - 1, by omega⟩
      obtain ⟨ad, x, rfl, _, hx, hcx⟩ := IntsAt.at_ (h.below hbw) (show k < n by omega)
      obtain ⟨ad2, y, e2, _, hy, hcy⟩ := IntsAt.at_ (h.below hbw) hlt
      injection e2 with e2
      subst e2
      have hxy : x < y := rising_step HR.out hx (by rw [← hk]; exact hy)
      have hyx : ¬ y ≤ x := by omega
      have h1 : (m : Int) < (n : Int) := by omega
      have hw1 : IntKind.i64.wrap ((m : Int) - 1) = (k : Int) := by rw [IntKind.wrap_i64]; omega
      have hw2 : wrap64 ((m : Int) + 1) = (m : Int) + 1 := IntWalk.wrap64_in _ ⟨by omega, by omega⟩
      have hbd := hbw.drew
      have hi1 : (0 : Int) ≤ (k : Int) := by omega
      have hi2 : (k : Int) < (n : Int) := by omega
      have hi3 : (0 : Int) ≤ (m : Int) := by omega
      have hcxd : wr.drew.cell? (ad.add k) = some (.int .i64 x) := hcx
      have hcyd : wr.drew.cell? (ad.add m) = some (.int .i64 y) := hcy
      have hkn : k < n := by omega
      clear hx hy hk
      go_wp2
      go_region_held3 (fun w' => w'.cell? (ad.add k) = some (.int .i64 x) ∧ w'.cell? (ad.add m) = some (.int .i64 y) ∧ Below w.heap.size w w') (first | exact ⟨hcxd, hcyd, hbd⟩ | exact ⟨hcx, hcy, hbw⟩) (fail)
      go_wp2
      go_roundw
      case rel => exact ⟨m + 1, by go_num, by omega, by omega, hbd⟩
      case measure => simp [intOf]; omega
    · have h1 : ¬ (m : Int) < (n : Int) := by omega
      go_wp2
      go_ret
      exact ⟨rfl, hbw⟩
end Go.Proofs.YtlclmpiocbkabaaGreatDoor
namespace Go.Proofs.YtlclmpiocbkabaaGreatDoor
open Go.RowKit
set_option linter.unusedVariables false

/-! ### steps -/
structure EStep where
  kind : Int
  rune : Int
  text : ByteArray
def stepV (x : EStep) : List Value := [.int .i64 x.kind, .int .i32 x.rune, .string x.text]
def stepsV (l : List EStep) : List Value := l.flatMap stepV
def EStepsAt (w : World) (B : Nat) (A : Option Addr) (n c : Nat) (l : List EStep) : Prop := Rd w B 3 A n c (stepsV l) ∧ l.length = n
theorem stepsV_at : ∀ {l : List EStep} {k : Nat} {x : EStep} (j : Nat), l[k]? = some x → j < 3 → (stepsV l)[k * 3 + j]? = (stepV x)[j]?
  | [], k, x, j, h, _ => by simp at h
  | y :: l, 0, x, j, h, hj => by
    simp at h
    subst h
    show (stepV y ++ stepsV l)[0 * 3 + j]? = _
    rw [List.getElem?_append_left (by simp [stepV]; omega)]
    congr 1
    omega
  | y :: l, k + 1, x, j, h, hj => by
    have ih := stepsV_at (l := l) (k := k) (x := x) j (by simpa using h) hj
    show (stepV y ++ stepsV l)[(k + 1) * 3 + j]? = _
    rw [List.getElem?_append_right (by simp [stepV]; omega)]
    rw [show (k + 1) * 3 + j - (stepV y).length = k * 3 + j by simp [stepV]; omega]
    exact ih
theorem EStepsAt.below {w w' : World} {B n c : Nat} {A : Option Addr} {l : List EStep} (h : EStepsAt w B A n c l) (hb : Below B w w') : EStepsAt w' B A n c l := ⟨h.1.below hb, h.2⟩
theorem EStepsAt.at_ {w : World} {B n c k : Nat} {A : Option Addr} {l : List EStep} (h : EStepsAt w B A n c l) (hk : k < n) :
    ∃ ad x, A = some ad ∧ ad.block < B ∧ l[k]? = some x ∧ w.cell? (ad.add (k * 3)) = some (.int .i64 x.kind) ∧ w.cell? ⟨(ad.add (k * 3)).block, (ad.add (k * 3)).off + 1, none⟩ = some (.int .i32 x.rune) ∧ w.cell? ⟨(ad.add (k * 3)).block, (ad.add (k * 3)).off + 2, none⟩ = some (.string x.text) := by
  obtain ⟨h1, h2⟩ := h
  obtain ⟨ad, e, hb, hc⟩ := h1.cells (by omega)
  have hx : l[k]? = some l[k] := List.getElem?_eq_getElem (by omega)
  refine ⟨ad, l[k], e, hb, hx, ?_, ?_, ?_⟩
  · exact hc (k * 3) _ (stepsV_at 0 hx (by omega))
  · rw [← add_step]; exact hc (k * 3 + (0 + 1)) _ (stepsV_at 1 hx (by omega))
  · rw [← add_step]; exact hc (k * 3 + (1 + 1)) _ (stepsV_at 2 hx (by omega))

/-! ### states -/
structure EState where
  inE : Bool
  opened : Bool
  codes : List Int
  seq : ByteArray
  told : ByteArray
def seqB (l : List Int) : ByteArray := ⟨(seqP l).toArray⟩
def stOf (s : PS) (told : ByteArray) : EState := ⟨s.inE, decide (0 < s.codes.length), s.codes, seqB s.codes, told⟩
def stepP (s : PS) (x : EStep) : PS := if x.kind = 0 then consume s x.rune else if x.kind = 1 then consumeAll s.reset (runes x.text) else s
def toldP (s : PS) (x : EStep) : ByteArray := if x.kind = 1 then seqB (stepP s x).codes else ⟨#[]⟩
def runP (s : PS) (l : List EStep) : PS := l.foldl stepP s
def statesOf : PS → List EStep → List EState
  | _, [] => []
  | s, x :: r => stOf (stepP s x) (toldP s x) :: statesOf (stepP s x) r
theorem statesOf_snoc (x : EStep) : ∀ (l : List EStep) (s : PS), statesOf s (l ++ [x]) = statesOf s l ++ [stOf (stepP (runP s l) x) (toldP (runP s l) x)]
  | [], s => rfl
  | y :: l, s => by
    rw [List.cons_append, statesOf, statesOf, statesOf_snoc x l (stepP s y)]
    rfl
theorem runP_snoc (s : PS) (l : List EStep) (x : EStep) : runP s (l ++ [x]) = stepP (runP s l) x := by simp [runP]
theorem statesOf_len : ∀ (l : List EStep) (s : PS), (statesOf s l).length = l.length
  | [], _ => rfl
  | x :: l, s => by rw [statesOf, List.length_cons, List.length_cons, statesOf_len l]
/-- The cells of a state; its codes are a row of the program's own. -/
def StAt (w : World) (B : Nat) (xs : List Value) (k : Nat) (s : EState) : Prop :=
  ∃ vc, xs[k * 5]? = some (.bool s.inE) ∧ xs[k * 5 + 1]? = some (.bool s.opened) ∧ xs[k * 5 + 2]? = some vc ∧ xs[k * 5 + 3]? = some (.string s.seq) ∧ xs[k * 5 + 4]? = some (.string s.told) ∧ w.ownsRow B 3 1 vc s.codes.length (s.codes.map (Value.int .i64))
def OwnStates (w : World) (B : Nat) (v : Value) (n : Nat) (l : List EState) : Prop :=
  ∃ xs, w.ownsRow B 29 5 v n xs ∧ l.length = n ∧ ∀ k s, l[k]? = some s → StAt w B xs k s

/-- Rows of one kind stand. -/
def KeptE (T : TypeId) (w w' : World) : Prop := ∀ (k : Nat) (cs : Array Value) (fz : Nat × Nat), w.heap[k]? = some (Obj.cells cs T fz) → w'.heap[k]? = some (Obj.cells cs T fz)
theorem KeptE.trans {T : TypeId} {w w1 w2 : World} (h : KeptE T w w1) (g : KeptE T w1 w2) : KeptE T w w2 := fun k cs fz hk => g k cs fz (h k cs fz hk)
theorem KeptE.below {T : TypeId} {w w' : World} (h : Below w.heap.size w w') : KeptE T w w' := fun k cs fz hk => (h.block k (Array.getElem?_eq_some_iff.1 hk).1).trans hk
theorem KeptE.kept {T : TypeId} {w w' : World} {p : Nat} {cs : Array Value} {fr : Nat × Nat} (h : Kept p w w') (hp : w.heap[p]? = some (.cells cs 52 fr)) (h1 : T ≠ 52) (h2 : T ≠ 5) : KeptE T w w' := fun k cs' fz hk => by
  refine h k _ hk ?_ (fun c f e => ?_) (fun es cl e => by cases e)
  · rintro rfl
    rw [hp] at hk
    injection hk with hk
    injection hk with _ hT
    exact h1 hT.symm
  · injection e with _ e
    exact h2 e
theorem own_keptE {w w' : World} {B e size n : Nat} {v : Value} {xs : List Value} (h : w.ownsRow B e size v n xs) (hk : KeptE e w w') : w'.ownsRow B e size v n xs := by
  obtain ⟨g1, g2⟩ := h
  refine ⟨g1, ?_⟩
  rcases g2 with g2 | ⟨g, cap, cur, hv, hg, hh, r⟩
  · exact Or.inl g2
  · exact Or.inr ⟨g, cap, cur, hv, hg, hk g _ _ hh, r⟩
theorem KeptE.grown {T : TypeId} {w w' : World} {B e size n : Nat} {v : Value} {xs : List Value} (h : w.ownsRow B e size v n xs) (hg : w.grownBy w' v.ownBlock) (hne : T ≠ e) : KeptE T w w' := fun k cs fz hk => by
  refine (hg.block k (Array.getElem?_eq_some_iff.1 hk).1 ?_).trans hk
  rcases h.2 with ⟨rfl, _⟩ | ⟨g, cap, cur, rfl, _, hh, _⟩
  · simp [Value.ownBlock]
  · intro he
    have he2 : some k = some g := he
    injection he2 with he2
    subst he2
    rw [hk] at hh
    injection hh with hh
    injection hh with _ hT
    exact hne hT
theorem StAt.keptE {w w' : World} {B k : Nat} {xs : List Value} {s : EState} (h : StAt w B xs k s) (hk : KeptE 3 w w') : StAt w' B xs k s := by
  obtain ⟨vc, h1, h2, h3, h4, h5, h6⟩ := h
  exact ⟨vc, h1, h2, h3, h4, h5, own_keptE h6 hk⟩
theorem StAt.left {w : World} {B k : Nat} {xs : List Value} (ys : List Value) {s : EState} (h : StAt w B xs k s) : StAt w B (xs ++ ys) k s := by
  obtain ⟨vc, h1, h2, h3, h4, h5, h6⟩ := h
  have key : ∀ j v, xs[j]? = some v → (xs ++ ys)[j]? = some v := fun j v hj => by rw [List.getElem?_append_left (List.getElem?_eq_some_iff.1 hj).1]; exact hj
  exact ⟨vc, key _ _ h1, key _ _ h2, key _ _ h3, key _ _ h4, key _ _ h5, h6⟩
theorem OwnStates.keptE {w w' : World} {B n : Nat} {v : Value} {l : List EState} (h : OwnStates w B v n l) (h1 : KeptE 3 w w') (h2 : KeptE 29 w w') : OwnStates w' B v n l := by
  obtain ⟨xs, a, b, c⟩ := h
  exact ⟨xs, own_keptE a h2, b, fun k s hk => (c k s hk).keptE h1⟩
theorem OwnStates.below {w w' : World} {B n : Nat} {v : Value} {l : List EState} (h : OwnStates w B v n l) (hb : Below w.heap.size w w') : OwnStates w' B v n l := h.keptE (KeptE.below hb) (KeptE.below hb)
theorem OwnStates.len {w : World} {B n : Nat} {v : Value} {l : List EState} (h : OwnStates w B v n l) : l.length = n := by
  obtain ⟨xs, _, b, _⟩ := h
  exact b
theorem states_snoc {w w' : World} {B n : Nat} {v' vc : Value} {xs : List Value} {l : List EState} {s : EState} (hl : l.length = n) (hx : xs.length = n * 5) (h3 : ∀ k s, l[k]? = some s → StAt w B xs k s) (hk : KeptE 3 w w')
    (hc : w'.ownsRow B 3 1 vc s.codes.length (s.codes.map (Value.int .i64))) (hown : w'.ownsRow B 29 5 v' (n + 1) (xs ++ [.bool s.inE, .bool s.opened, vc, .string s.seq, .string s.told])) : OwnStates w' B v' (n + 1) (l ++ [s]) := by
  refine ⟨_, hown, by rw [List.length_append, hl]; rfl, fun k t ht => ?_⟩
  rcases Nat.lt_or_ge k n with hkn | hkn
  · rw [List.getElem?_append_left (by omega)] at ht
    exact ((h3 k t ht).keptE hk).left _
  · rw [List.getElem?_append_right (by omega), hl] at ht
    have hkk : k = n := by
      have := (List.getElem?_eq_some_iff.1 ht).1
      simp at this
      omega
    subst hkk
    rw [Nat.sub_self] at ht
    simp at ht
    subst ht
    have key : ∀ j, (xs ++ [.bool s.inE, .bool s.opened, vc, .string s.seq, .string s.told])[k * 5 + j]? = [Value.bool s.inE, .bool s.opened, vc, .string s.seq, .string s.told][j]? := fun j => by
      rw [List.getElem?_append_right (by omega), hx, Nat.add_sub_cancel_left]
    exact ⟨vc, key 0, key 1, key 2, key 3, key 4, hc⟩
/-- What a state reads as. -/
theorem OwnStates.at_ {w : World} {B n k : Nat} {v : Value} {l : List EState} (h : OwnStates w B v n l) (hk : k < n) :
    ∃ ad c s A' c', v = .slice (some ad) n c ∧ l[k]? = some s ∧ w.cell? (ad.add (k * 5)) = some (.bool s.inE) ∧ w.cell? ⟨(ad.add (k * 5)).block, (ad.add (k * 5)).off + 1, none⟩ = some (.bool s.opened) ∧ w.cell? ⟨(ad.add (k * 5)).block, (ad.add (k * 5)).off + 2, none⟩ = some (.slice A' s.codes.length c') ∧ w.cell? ⟨(ad.add (k * 5)).block, (ad.add (k * 5)).off + 3, none⟩ = some (.string s.seq) ∧ w.cell? ⟨(ad.add (k * 5)).block, (ad.add (k * 5)).off + 4, none⟩ = some (.string s.told) ∧ IntsAt w w.heap.size A' s.codes.length c' s.codes := by
  obtain ⟨xs, h1, h2, h3⟩ := h
  obtain ⟨A, c, rfl, hr⟩ := own_rd h1
  obtain ⟨ad, rfl, hb, hc⟩ := hr.cells (by omega)
  have hx : l[k]? = some l[k] := List.getElem?_eq_getElem (by omega)
  obtain ⟨vc, a0, a1, a2, a3, a4, a5⟩ := h3 k _ hx
  obtain ⟨A', c', rfl, hi⟩ := own_rd a5
  refine ⟨ad, c, l[k], A', c', rfl, hx, hc _ _ a0, ?_, ?_, ?_, ?_, hi⟩
  · rw [← add_step]; exact hc _ _ a1
  · rw [← add_step]; exact hc _ _ a2
  · rw [← add_step]; exact hc _ _ a3
  · rw [← add_step]; exact hc _ _ a4
theorem OwnStates.shape {w : World} {B n : Nat} {v : Value} {l : List EState} (h : OwnStates w B v n l) : ∃ A c, v = .slice A n c ∧ n ≤ c ∧ c ≤ 9223372036854775807 := by
  obtain ⟨xs, h1, _⟩ := h
  obtain ⟨A, c, e, hr⟩ := own_rd h1
  exact ⟨A, c, e, hr.cap, hr.small⟩
theorem own_one {w : World} {B e size n : Nat} {v : Value} {xs : List Value} (h : w.ownsRow B e size v n xs) : v.oneCell' = true := by
  rcases h.2 with ⟨rfl, _⟩ | ⟨g, cap, cur, rfl, _⟩ <;> rfl
/-- What a row's growth leaves. -/
theorem kept_other {w w' : World} {B e size n : Nat} {v : Value} {xs : List Value} (h : w.ownsRow B e size v n xs) (hg : w.grownBy w' v.ownBlock) {k : Nat} {ob : Obj} (hk : w.heap[k]? = some ob) (hne : ∀ cs fz, ob ≠ Obj.cells cs e fz) : w'.heap[k]? = some ob := by
  refine (hg.block k (Array.getElem?_eq_some_iff.1 hk).1 ?_).trans hk
  rcases h.2 with ⟨rfl, _⟩ | ⟨g, cap, cur, rfl, _, hh, _⟩
  · simp [Value.ownBlock]
  · intro he
    have he2 : some k = some g := he
    injection he2 with he2
    subst he2
    rw [hk] at hh
    injection hh with hh
    exact hne _ _ hh
theorem PAt.grown_other {w w' : World} {B p e size n : Nat} {v : Value} {xs : List Value} {s : PS} (hP : PAt w B p s) (h : w.ownsRow B e size v n xs) (hg : w.grownBy w' v.ownBlock) (h1 : 52 ≠ e) (h2 : 5 ≠ e) : PAt w' B p s := by
  obtain ⟨vm, vb, hb, hv, ho⟩ := hP.ex
  refine ⟨hP.base, vm, vb, kept_other h hg hb (fun cs fz q => by injection q with _ q; exact h1 q), ?_, own_keptE ho (KeptE.grown h hg h2)⟩
  rcases hv with q | ⟨b, q1, q2, q3⟩
  · exact Or.inl q
  · obtain ⟨es, clock, hq, hr⟩ := q3
    have hq3 : SetAt w b s.codes := ⟨es, clock, hq, hr⟩
    exact Or.inr ⟨b, q1, q2, hq3.same ((kept_other h hg hq (fun cs fz q => by cases q)).trans hq.symm)⟩
theorem infoEscState : (Tryz.prog.info? 29).map (fun i => (i.zero, i.size, i.bytes)) = some (some (.agg #[.bool false, .bool false, .slice none 0 0, .string ⟨#[]⟩, .string ⟨#[]⟩]), 5, 64) := by kernel_rfl
end Go.Proofs.YtlclmpiocbkabaaGreatDoor
namespace Go.Proofs.YtlclmpiocbkabaaGreatDoor
open Go.RowKit
set_option linter.unusedVariables false
set_option linter.unusedSimpArgs false

def EOk (x : EStep) : Prop := (x.kind = 0 ∧ 0 ≤ x.rune ∧ x.rune ≤ 1114111) ∨ (x.kind = 1 ∧ x.text.size ≤ 500)
theorem Fine.ready {n : Nat} {w : World} {B p : Nat} {s : PS} (h : Fine n s) (hn : n ≤ 90000) (hP : PAt w B p s) (hT : TabsB B w) (hB : B ≤ w.heap.size) : Ready w B p s :=
  ⟨hP, hT, hB, h.buf, by have := h.few; unfold weight at this; omega⟩

set_option maxRecDepth 100000 in
set_option maxHeartbeats 4000000 in
theorem textParse_any (A : Option Addr) (n c : Nat) (L : List EStep) (w : World) (h : EStepsAt w w.heap.size A n c L) (hT : TabsB w.heap.size w) (hn : n ≤ 1000000) (hX : ∀ x ∈ L, EOk x) (hF : ∀ k, k ≤ n → Fine 9000 (runP fresh (L.take k))) :
    Calls Tryz.prog 12 #[.slice A n c] w fun e w' => ∃ v, e = .returned v ∧ OwnStates w' w.heap.size v n (statesOf fresh L) ∧ Below w.heap.size w w' := by
  obtain ⟨i0, hi, hz0, hz1, hz2⟩ := info_parts infoEscState
  have HT := Lib.hid hT
  have HX := Lib.hid hX
  have HF := Lib.hid hF
  have HL := Lib.hid h.2
  have h63 : n ≤ 9223372036854775807 := by omega
  clear hT hX hF
  go_enter Tryz.func12, Tryz.ntmps12
  go_wp2
  go_loopw [4, 11] (fun v4 v11 wr => ∃ (m : Nat) (s : PS) (sts : List EState), m ≤ n ∧ v11 = .int .i64 m ∧ PAt wr w.heap.size w.heap.size s ∧ OwnStates wr w.heap.size v4 m sts ∧ Below w.heap.size w wr ∧ Hid (s = runP fresh (L.take m) ∧ sts = statesOf fresh (L.take m))) (fun _ v11 _ => n - (intOf v11).toNat)
  case atStart =>
    refine ⟨0, fresh, [], Nat.zero_le _, rfl, ⟨Nat.le_refl _, .map none, .slice none 0 0, ?_, Or.inl ⟨rfl, rfl⟩, World.ownsRow_nil _ _ _ _⟩, ?_, ((Below.refl _ w).alloc (Nat.le_refl _) _).alloc (by simp) _, Lib.hid ⟨by simp [runP], by simp [statesOf]⟩⟩
    · exact (heap_alloc_old _ _ (by simp)).trans (heap_alloc_new w _)
    · refine ⟨[], ⟨rfl, Or.inr ⟨w.heap.size + 1, 0, #[], by simp, by omega, ?_, Nat.le_refl _, Nat.zero_le _, rfl, rfl⟩⟩, rfl, fun k s hk => by simp at hk⟩
      have := heap_alloc_new (w.alloc (.cells (pcells (.map none) false 0 (.slice none 0 0)) 52)) (.cells #[] 29)
      simpa using this
  case round =>
    obtain ⟨m, s, sts, hm, rfl, hP, hown, hbw, HS⟩ := hrel
    have hsz := hbw.size
    by_cases hlt : m < n
    · obtain ⟨ad, x, rfl, _, hy, hc0, hc1, hc2⟩ := (h.below hbw).at_ hlt
      have hk1 : (m : Int) < (n : Int) := by omega
      have hw1 : wrap64 ((m : Int) + 1) = (m : Int) + 1 := IntWalk.wrap64_in _ ⟨by omega, by omega⟩
      have HY := Lib.hid hy
      have hF1 := HF.out m hm
      have hF2 := HF.out (m + 1) (by omega)
      have htk : L.take (m + 1) = L.take m ++ [x] := take_step hy
      rw [htk, runP_snoc, ← HS.out.1] at hF2
      rw [← HS.out.1] at hF1
      have HF1 := Lib.hid hF1
      have HST := Lib.hid (show stepP s x = runP fresh (L.take (m + 1)) ∧ sts ++ [stOf (stepP s x) (toldP s x)] = statesOf fresh (L.take (m + 1)) by
        rw [htk, runP_snoc, statesOf_snoc, ← HS.out.1, ← HS.out.2]; exact ⟨rfl, rfl⟩)
      have hxo := HX.out x (List.mem_of_getElem? hy)
      clear hy hF1 htk
      obtain ⟨kd, r, tx⟩ := x
      unfold EOk at hxo
      dsimp only at hxo hc0 hc1 hc2
      obtain ⟨s2, hs2⟩ : ∃ s2, s2 = stepP s ⟨kd, r, tx⟩ := ⟨_, rfl⟩
      obtain ⟨td, htd⟩ : ∃ td, td = toldP s ⟨kd, r, tx⟩ := ⟨_, rfl⟩
      rw [← hs2] at hF2
      rw [← hs2, ← htd] at HST
      have HF2 := Lib.hid hF2
      have HS2 := Lib.hid hs2
      have HTD := Lib.hid htd
      have hb1 := (Below.refl wr.heap.size wr).alloc (Nat.le_refl _) (.cells #[.int .i64 kd, .int .i32 r, .string tx] 54)
      have hbw1 := hbw.trans (hb1.mono hsz)
      have hP1 := hP.below hb1
      have hown1 := hown.below hb1
      have HRR := Lib.hid (HF1.out.ready (by omega) hP1 (HT.out.then hbw1) hbw1.size)
      have HN := Lib.hid (show n ≤ 1000000 from hn)
      clear hF2 hs2 htd hP hown hbw hb1
      rcases hxo with ⟨rfl, hr0, hr1⟩ | ⟨rfl, htz⟩
      · have e2 : consume s r = s2 := by rw [HS2.out]; rfl
        have et : td = ⟨#[]⟩ := by rw [HTD.out]; rfl
        subst et
        have HE2 := Lib.hid e2
        clear e2
        go_wp2_with fail
        refine (consume_any w.heap.size w.heap.size s r _ HRR.out ⟨hr0, hr1⟩).mono ?_
        rintro e w4 ⟨rfl, hP4, hb4, hk4⟩
        rw [HE2.out] at hP4
        have hpb := HRR.out.at_.ex
        obtain ⟨vm, vb, hbp, _⟩ := hpb
        have hown4 := hown1.keptE (KeptE.kept hk4 hbp (by decide) (by decide)) (KeptE.kept hk4 hbp (by decide) (by decide))
        have hbw4 := hbw1.trans hb4
        have hl2 : s2.codes.length ≤ 9000 := by have := HF2.out.few; unfold weight at this; omega
        have HL2 := Lib.hid hl2
        clear hbp hown1 hbw1 hP1 hb4 hk4 HRR hl2
        go_wp2_with fail
        refine (inSeq_any w.heap.size w.heap.size s2 _ hP4).mono ?_
        rintro e w5 ⟨rfl, rfl⟩
        go_wp2_with fail
        refine (isOpen_any w.heap.size w.heap.size s2 _ hP4).mono ?_
        rintro e w5 ⟨rfl, rfl⟩
        go_wp2_with fail
        refine (pcodes_any w.heap.size w.heap.size s2 _ hP4 HF2.out.rising (by have := HL2.out; omega)).mono ?_
        rintro e w5 ⟨vc, rfl, hrow5, hb5⟩
        obtain ⟨A5, c5, rfl, _⟩ := own_rd hrow5
        have hP5 := hP4.below hb5
        have hown5 := hown4.below hb5
        have hbw5 := hbw4.trans (hb5.mono hbw4.size)
        have hrow5' := own_base hrow5 hbw4.size
        clear hP4 hown4 hb5 hrow5
        go_wp2_with fail
        refine (pseq_any w.heap.size w.heap.size s2 _ hP5 HF2.out.rising (by have := HL2.out; omega) HF2.out.wide).mono ?_
        rintro e w6 ⟨rfl, hb6⟩
        have hP6 := hP5.below hb6
        have hown6 := hown5.below hb6
        have hbw6 := hbw5.trans (hb6.mono hbw5.size)
        have hrow6 := own_below hrow5' hb6 (Nat.le_refl _)
        have hsz6 := hbw6.size
        clear hP5 hown5 hb6 hrow5' hbw5 hbw4
        obtain ⟨xs, hx1, hx2, hx3⟩ := hown6
        go_wp2_with (at_builtin; go_loud (refine wpList_append_own _ rfl _ _ 33 rfl w.heap.size 29 i0 (.agg #[.bool false, .bool false, .slice none 0 0, .string ⟨#[]⟩, .string ⟨#[]⟩]) 5 64 Tryz.underlying33 hi hz0 hz1 hz2 rfl (by decide) _ _ _ rfl (hx1.alloc _) ⟨w6.heap.size, 0, none⟩ 1 1 [.bool s2.inE, .bool (decide (0 < s2.codes.length)), .slice A5 s2.codes.length c5, .string ⟨(seqP s2.codes).toArray⟩, .string ⟨#[]⟩] rfl rfl (World.news_of_block (cs := #[.bool s2.inE, .bool (decide (0 < s2.codes.length)), .slice A5 s2.codes.length c5, .string ⟨(seqP s2.codes).toArray⟩, .string ⟨#[]⟩]) (heap_alloc_new _ _)) (by intro u hu; simp at hu; rcases hu with rfl | rfl | rfl | rfl | rfl <;> first | rfl | exact own_one hrow6) (by unfold maxLen; omega) (by omega) (by simp; omega) ?_))
        intro v' w7 hown7 hgrow _
        have hkI : KeptE 3 w6 w7 := (KeptE.below ((Below.refl _ w6).alloc (Nat.le_refl _) _)).trans (KeptE.grown (hx1.alloc _) hgrow (by decide))
        have hP7 : PAt w7 w.heap.size w.heap.size s2 := (hP6.below ((Below.refl _ w6).alloc (Nat.le_refl _) (.cells #[.bool s2.inE, .bool (decide (0 < s2.codes.length)), .slice A5 s2.codes.length c5, .string ⟨(seqP s2.codes).toArray⟩, .string ⟨#[]⟩] 29))).grown_other (hx1.alloc (.cells #[.bool s2.inE, .bool (decide (0 < s2.codes.length)), .slice A5 s2.codes.length c5, .string ⟨(seqP s2.codes).toArray⟩, .string ⟨#[]⟩] 29)) hgrow (by decide) (by decide)
        have hbw7 := (hbw6.alloc hsz6 (.cells #[.bool s2.inE, .bool (decide (0 < s2.codes.length)), .slice A5 s2.codes.length c5, .string ⟨(seqP s2.codes).toArray⟩, .string ⟨#[]⟩] 29)).grown hgrow (by simp; omega) (fun j hj => (World.ownsRow.lt hx1 _ hj).1)
        have hst7 : OwnStates w7 w.heap.size v' (m + 1) (sts ++ [stOf s2 ⟨#[]⟩]) := states_snoc hx2 hx1.1 hx3 hkI (own_keptE hrow6 hkI) hown7
        rw [HST.out.2] at hst7
        clear hx1 hx3 hown7 hgrow hkI hP6 hrow6 hbw6
        go_wp2
        go_roundw
        case rel => exact ⟨m + 1, s2, _, by omega, by go_num, hP7, hst7, hbw7, Lib.hid ⟨HST.out.1, rfl⟩⟩
        case measure => simp [intOf]; omega
      · have e2 : consumeAll s.reset (runes tx) = s2 := by rw [HS2.out]; rfl
        have et : td = ⟨(seqP s2.codes).toArray⟩ := by rw [HTD.out, HS2.out]; rfl
        subst et
        have HE2 := Lib.hid e2
        have hcl : s.codes.length ≤ 10000 := by have := HF1.out.few; unfold weight at this; omega
        have HCL := Lib.hid hcl
        have h64 : ∀ c ∈ (consumeAll s.reset (runes tx)).codes, In64 c := by rw [e2]; exact HF2.out.wide
        have H64 := Lib.hid h64
        clear e2 hcl h64
        go_wp2_with fail
        refine (pstr_any w.heap.size w.heap.size s tx _ HRR.out HCL.out htz HF1.out.rising H64.out).mono ?_
        rintro e w4 ⟨rfl, hP4, hb4, hk4⟩
        rw [HE2.out] at hP4 ⊢
        have hpb := HRR.out.at_.ex
        obtain ⟨vm, vb, hbp, _⟩ := hpb
        have hown4 := hown1.keptE (KeptE.kept hk4 hbp (by decide) (by decide)) (KeptE.kept hk4 hbp (by decide) (by decide))
        have hbw4 := hbw1.trans hb4
        have hl2 : s2.codes.length ≤ 9000 := by have := HF2.out.few; unfold weight at this; omega
        have HL2 := Lib.hid hl2
        clear hbp hown1 hbw1 hP1 hb4 hk4 HRR hl2
        go_wp2_with fail
        refine (inSeq_any w.heap.size w.heap.size s2 _ hP4).mono ?_
        rintro e w5 ⟨rfl, rfl⟩
        go_wp2_with fail
        refine (isOpen_any w.heap.size w.heap.size s2 _ hP4).mono ?_
        rintro e w5 ⟨rfl, rfl⟩
        go_wp2_with fail
        refine (pcodes_any w.heap.size w.heap.size s2 _ hP4 HF2.out.rising (by have := HL2.out; omega)).mono ?_
        rintro e w5 ⟨vc, rfl, hrow5, hb5⟩
        obtain ⟨A5, c5, rfl, _⟩ := own_rd hrow5
        have hP5 := hP4.below hb5
        have hown5 := hown4.below hb5
        have hbw5 := hbw4.trans (hb5.mono hbw4.size)
        have hrow5' := own_base hrow5 hbw4.size
        clear hP4 hown4 hb5 hrow5
        go_wp2_with fail
        refine (pseq_any w.heap.size w.heap.size s2 _ hP5 HF2.out.rising (by have := HL2.out; omega) HF2.out.wide).mono ?_
        rintro e w6 ⟨rfl, hb6⟩
        have hP6 := hP5.below hb6
        have hown6 := hown5.below hb6
        have hbw6 := hbw5.trans (hb6.mono hbw5.size)
        have hrow6 := own_below hrow5' hb6 (Nat.le_refl _)
        have hsz6 := hbw6.size
        clear hP5 hown5 hb6 hrow5' hbw5 hbw4
        obtain ⟨xs, hx1, hx2, hx3⟩ := hown6
        go_wp2_with (at_builtin; go_loud (refine wpList_append_own _ rfl _ _ 33 rfl w.heap.size 29 i0 (.agg #[.bool false, .bool false, .slice none 0 0, .string ⟨#[]⟩, .string ⟨#[]⟩]) 5 64 Tryz.underlying33 hi hz0 hz1 hz2 rfl (by decide) _ _ _ rfl (hx1.alloc _) ⟨w6.heap.size, 0, none⟩ 1 1 [.bool s2.inE, .bool (decide (0 < s2.codes.length)), .slice A5 s2.codes.length c5, .string ⟨(seqP s2.codes).toArray⟩, .string ⟨(seqP s2.codes).toArray⟩] rfl rfl (World.news_of_block (cs := #[.bool s2.inE, .bool (decide (0 < s2.codes.length)), .slice A5 s2.codes.length c5, .string ⟨(seqP s2.codes).toArray⟩, .string ⟨(seqP s2.codes).toArray⟩]) (heap_alloc_new _ _)) (by intro u hu; simp at hu; rcases hu with rfl | rfl | rfl | rfl | rfl <;> first | rfl | exact own_one hrow6) (by unfold maxLen; omega) (by omega) (by simp; omega) ?_))
        intro v' w7 hown7 hgrow _
        have hkI : KeptE 3 w6 w7 := (KeptE.below ((Below.refl _ w6).alloc (Nat.le_refl _) _)).trans (KeptE.grown (hx1.alloc _) hgrow (by decide))
        have hP7 : PAt w7 w.heap.size w.heap.size s2 := (hP6.below ((Below.refl _ w6).alloc (Nat.le_refl _) (.cells #[.bool s2.inE, .bool (decide (0 < s2.codes.length)), .slice A5 s2.codes.length c5, .string ⟨(seqP s2.codes).toArray⟩, .string ⟨(seqP s2.codes).toArray⟩] 29))).grown_other (hx1.alloc (.cells #[.bool s2.inE, .bool (decide (0 < s2.codes.length)), .slice A5 s2.codes.length c5, .string ⟨(seqP s2.codes).toArray⟩, .string ⟨(seqP s2.codes).toArray⟩] 29)) hgrow (by decide) (by decide)
        have hbw7 := (hbw6.alloc hsz6 (.cells #[.bool s2.inE, .bool (decide (0 < s2.codes.length)), .slice A5 s2.codes.length c5, .string ⟨(seqP s2.codes).toArray⟩, .string ⟨(seqP s2.codes).toArray⟩] 29)).grown hgrow (by simp; omega) (fun j hj => (World.ownsRow.lt hx1 _ hj).1)
        have hst7 : OwnStates w7 w.heap.size v' (m + 1) (sts ++ [stOf s2 ⟨(seqP s2.codes).toArray⟩]) := states_snoc hx2 hx1.1 hx3 hkI (own_keptE hrow6 hkI) hown7
        rw [HST.out.2] at hst7
        clear hx1 hx3 hown7 hgrow hkI hP6 hrow6 hbw6
        go_wp2
        go_roundw
        case rel => exact ⟨m + 1, s2, _, by omega, by go_num, hP7, hst7, hbw7, Lib.hid ⟨HST.out.1, rfl⟩⟩
        case measure => simp [intOf]; omega
    · have hmn : m = n := by omega
      subst hmn
      have HE := Lib.hid (show sts = statesOf fresh L by rw [HS.out.2, List.take_of_length_le (by rw [HL.out]; exact Nat.le_refl _)])
      go_wp2
      go_ret
      refine ⟨_, rfl, ?_, hbw⟩
      rw [← HE.out]
      exact hown
end Go.Proofs.YtlclmpiocbkabaaGreatDoor
namespace Go.Proofs.YtlclmpiocbkabaaGreatDoor
open Go.RowKit
set_option linter.unusedVariables false
set_option linter.unusedSimpArgs false

theorem runes_range (s : ByteArray) (pos : Nat) : ∀ r ∈ runesFrom s pos, 0 ≤ r ∧ r ≤ 1114111 := by
  by_cases h : pos < s.size
  · rw [runesFrom_step h]
    intro r hr
    rcases List.mem_cons.1 hr with rfl | hr
    · have := decode_le_max s pos; omega
    · exact runes_range s _ r hr
  · rw [runesFrom_end h]
    intro r hr
    simp at hr
termination_by s.size - pos
decreasing_by
  have := Lib.decode_width_pos s pos h
  omega

def stepsOf (rs : List Int) : List EStep := rs.map fun r => ⟨0, r, ⟨#[]⟩⟩
theorem stepsOf_cells (rs : List Int) : stepsV (stepsOf rs) = stepsC rs := by
  unfold stepsV stepsOf stepsC
  rw [List.flatMap_map]
  rfl
theorem run_stepsOf : ∀ (rs : List Int) (s : PS), runP s (stepsOf rs) = consumeAll s rs
  | [], _ => rfl
  | r :: rs, s => run_stepsOf rs (consume s r)
theorem take_stepsOf (rs : List Int) (k : Nat) : (stepsOf rs).take k = stepsOf (rs.take k) := by unfold stepsOf; rw [List.map_take]
theorem fine_take (rs : List Int) (h : rs.length ≤ 700) (k : Nat) : Fine 9000 (runP fresh ((stepsOf rs).take k)) := by
  rw [take_stepsOf, run_stepsOf]
  exact (Fine.all (s := fresh) _ Fine.start).more (by have := List.length_take_le' k rs; omega)
/-- The states behind the characters of a text. -/
def charStates (rs : List Int) : List EState := statesOf fresh (stepsOf rs)
theorem charStates_len (rs : List Int) : (charStates rs).length = rs.length := by unfold charStates; rw [statesOf_len]; unfold stepsOf; rw [List.length_map]
theorem charStates_snoc (rs : List Int) (r : Int) : charStates (rs ++ [r]) = charStates rs ++ [stOf (consumeAll fresh (rs ++ [r])) ⟨#[]⟩] := by
  unfold charStates
  have e : stepsOf (rs ++ [r]) = stepsOf rs ++ [⟨0, r, ⟨#[]⟩⟩] := by unfold stepsOf; rw [List.map_append]; rfl
  have e2 : consumeAll fresh (rs ++ [r]) = consume (consumeAll fresh rs) r := by unfold consumeAll; rw [List.foldl_append]; rfl
  rw [e, statesOf_snoc, run_stepsOf, e2]
  rfl
theorem charStates_last {rs : List Int} (h : rs ≠ []) : (charStates rs)[rs.length - 1]? = some (stOf (consumeAll fresh rs) ⟨#[]⟩) := by
  rcases List.eq_nil_or_concat rs with rfl | ⟨t, r, rfl⟩
  · exact absurd rfl h
  · rw [List.concat_eq_append, charStates_snoc, List.length_append]
    rw [List.getElem?_append_right (by rw [charStates_len]; simp), charStates_len]
    simp
theorem OwnStates.base {w : World} {B B' n : Nat} {v : Value} {l : List EState} (h : OwnStates w B v n l) (hB : B' ≤ B) : OwnStates w B' v n l := by
  obtain ⟨xs, a, b, c⟩ := h
  refine ⟨xs, own_base a hB, b, fun k s hk => ?_⟩
  obtain ⟨vc, h1, h2, h3, h4, h5, h6⟩ := c k s hk
  exact ⟨vc, h1, h2, h3, h4, h5, own_base h6 hB⟩

set_option maxRecDepth 100000 in
set_option maxHeartbeats 2000000 in
theorem ptStates_any (t : ByteArray) (w : World) (ht : t.size ≤ 700) (hT : TabsB w.heap.size w) :
    Calls Tryz.prog 11 #[.string t] w fun e w' => ∃ v, e = .returned v ∧ OwnStates w' w.heap.size v (runes t).length (charStates (runes t)) ∧ Below w.heap.size w w' := by
  have hl := runes_length t
  have HT := Lib.hid hT
  clear hT
  go_enter Tryz.func11, Tryz.ntmps11
  go_wp2_with fail
  refine (ptSteps_any t _ (by omega)).mono ?_
  rintro e w1 ⟨v1, rfl, hown, hb1⟩
  obtain ⟨A, c, rfl, hr⟩ := own_rd hown
  rw [← stepsOf_cells] at hr
  have hat : EStepsAt w1 w1.heap.size A (runes t).length c (stepsOf (runes t)) := ⟨hr, by unfold stepsOf; rw [List.length_map]⟩
  have HAT := Lib.hid hat
  clear hown hr hat
  go_wp2_with fail
  refine (textParse_any A (runes t).length c (stepsOf (runes t)) _ HAT.out (HT.out.then hb1).now.stay (by omega) ?_ ?_).mono ?_
  · intro x hx
    unfold stepsOf at hx
    rw [List.mem_map] at hx
    obtain ⟨r, hr, rfl⟩ := hx
    exact Or.inl ⟨rfl, runes_range t 0 r hr⟩
  · exact fun k _ => fine_take _ (by omega) k
  · rintro e w2 ⟨v, rfl, hst, hb2⟩
    have hb12 := hb1.trans (hb2.mono hb1.size)
    have hst2 := hst.base hb1.size
    go_wp2
    go_ret
    exact ⟨_, rfl, hst2, hb12⟩
end Go.Proofs.YtlclmpiocbkabaaGreatDoor
namespace Go.Proofs.YtlclmpiocbkabaaGreatDoor
open Go.RowKit
set_option linter.unusedVariables false
set_option linter.unusedSimpArgs false

/-- laws.ptLast: the last state. -/
def lastOf (rs : List Int) : EState := if rs = [] then ⟨false, false, [], ⟨#[]⟩, ⟨#[]⟩⟩ else stOf (consumeAll fresh rs) ⟨#[]⟩
theorem alike_refl (l : List Int) : alikeB l l = true := (alike_iff l l).2 ⟨fun _ h => h, fun _ h => h⟩
theorem runes_ne {s : ByteArray} (h : 0 < s.size) : runes s ≠ [] := by
  unfold runes
  rw [runesFrom_step h]
  simp
theorem runes_empty : runes ⟨#[]⟩ = [] := runesFrom_end (by decide)
theorem size_zero {t : ByteArray} (h : ¬ 0 < t.size) : t = ⟨#[]⟩ := by
  apply bl_ext
  have := bl_size t
  have h0 : (bl t).length = 0 := by omega
  rw [List.eq_nil_of_length_eq_zero h0]
theorem str_none {t : ByteArray} : t.toList.isEmpty = decide (¬ 0 < t.size) := by
  rw [Lib.toList_data, ← bl_size]
  cases h : t.data.toList with
  | nil => simp [bl, h]
  | cons b l => simp [bl, h]
/-- What a state reads as; its codes are a row of the program's own. -/
theorem OwnStates.own {w : World} {B n k : Nat} {v : Value} {l : List EState} (h : OwnStates w B v n l) (hk : k < n) :
    ∃ ad c s A' c', v = .slice (some ad) n c ∧ l[k]? = some s ∧ w.cell? (ad.add (k * 5)) = some (.bool s.inE) ∧ w.cell? ⟨(ad.add (k * 5)).block, (ad.add (k * 5)).off + 1, none⟩ = some (.bool s.opened) ∧ w.cell? ⟨(ad.add (k * 5)).block, (ad.add (k * 5)).off + 2, none⟩ = some (.slice A' s.codes.length c') ∧ w.cell? ⟨(ad.add (k * 5)).block, (ad.add (k * 5)).off + 3, none⟩ = some (.string s.seq) ∧ w.cell? ⟨(ad.add (k * 5)).block, (ad.add (k * 5)).off + 4, none⟩ = some (.string s.told) ∧ w.ownsRow B 3 1 (.slice A' s.codes.length c') s.codes.length (s.codes.map (Value.int .i64)) := by
  obtain ⟨xs, h1, h2, h3⟩ := h
  obtain ⟨A, c, rfl, hr⟩ := own_rd h1
  obtain ⟨ad, rfl, hb, hc⟩ := hr.cells (by omega)
  have hx : l[k]? = some l[k] := List.getElem?_eq_getElem (by omega)
  obtain ⟨vc, a0, a1, a2, a3, a4, a5⟩ := h3 k _ hx
  obtain ⟨A', c', rfl, hi⟩ := own_rd a5
  refine ⟨ad, c, l[k], A', c', rfl, hx, hc _ _ a0, ?_, ?_, ?_, ?_, a5⟩
  · rw [← add_step]; exact hc _ _ a1
  · rw [← add_step]; exact hc _ _ a2
  · rw [← add_step]; exact hc _ _ a3
  · rw [← add_step]; exact hc _ _ a4
theorem results_row_tmp {P : Program} {fn : Func} {p u : Tmp} {ty : TypeId} (h : fn.results = #[.cell p ty, .tmp u]) (tmps : Array Value) (w : World) (g : Nat) (t : TypeId) (cs : Array Value) (fr : Nat × Nat) (d : TypeDesc)
    (hp : tmps.getD p undef = .pointer (some ⟨g, 0, none⟩)) (hg : w.heap[g]? = some (.cells cs t fr))
    (hu : P.underlying ty = some d) (hd : (match d with | .struct _ | .array _ _ => true | _ => false) = true) (hi : (P.info? ty).map (·.size) = some cs.size) :
    (results fn tmps).run P w = .ok (.tuple #[.agg cs, tmps.getD u undef]) w := by
  rw [results_cell_tmp h, hp]
  simp [asAddr, run_loadVar_row w g t ty cs fr d hg hu hd hi, Result.andThen]
theorem own_far_set5 {w : World} {B e size n g : Nat} {v : Value} {xs : List Value} (h : w.ownsRow B e size v n xs) (hg : g < B) (v0 v1 v2 v3 v4 : Value) : (((((w.setCell ⟨g, 0, none⟩ v0).setCell ⟨g, 1, none⟩ v1).setCell ⟨g, 2, none⟩ v2).setCell ⟨g, 3, none⟩ v3).setCell ⟨g, 4, none⟩ v4).ownsRow B e size v n xs := by
  have key : ∀ (w : World) (j : Nat) (u : Value), w.ownsRow B e size v n xs → (w.setCell ⟨g, j, none⟩ u).ownsRow B e size v n xs := fun w j u h =>
    ownsRow_setCell_other h (a := ⟨g, j, none⟩) (fun he => by have := (World.ownsRow.lt h g he).1; omega) u
  exact key _ _ _ (key _ _ _ (key _ _ _ (key _ _ _ (key _ _ _ h))))
/-- A state as a value: the slice of its codes, and where that lies. -/
def stAgg (s : EState) (A : Option Addr) (c : Nat) : Value := .agg #[.bool s.inE, .bool s.opened, .slice A s.codes.length c, .string s.seq, .string s.told]
theorem infoState : (Tryz.prog.info? 29).map (fun i => i.zero) = some (some (.agg #[.bool false, .bool false, .slice none 0 0, .string ⟨#[]⟩, .string ⟨#[]⟩])) := by kernel_rfl

set_option maxRecDepth 100000 in
set_option maxHeartbeats 4000000 in
theorem ptLast_any (t : ByteArray) (w : World) (ht : t.size ≤ 700) (hT : TabsB w.heap.size w) :
    Calls Tryz.prog 9 #[.string t] w fun e w' => ∃ A c, e = .returned (.tuple #[stAgg (lastOf (runes t)) A c, .bool true]) ∧ IntsAt w' w'.heap.size A (lastOf (runes t)).codes.length c (lastOf (runes t)).codes ∧ Below w.heap.size w w' := by
  have hl := runes_length t
  have HT := Lib.hid hT
  clear hT
  have hb0 := (Below.refl w.heap.size w).alloc (Nat.le_refl _) (.cells #[.bool false, .bool false, .slice none 0 0, .string ⟨#[]⟩, .string ⟨#[]⟩] 29)
  have HT1 := Lib.hid (HT.out.then hb0).now.stay
  by_cases h0 : 0 < t.size
  · have hne := runes_ne h0
    obtain ⟨n, hn⟩ : ∃ n, n = (runes t).length := ⟨_, rfl⟩
    have hn0 : 0 < n := by rw [hn]; exact List.length_pos_iff.2 hne
    have hlast := charStates_last hne
    have HLA := Lib.hid (show lastOf (runes t) = stOf (consumeAll fresh (runes t)) ⟨#[]⟩ by unfold lastOf; rw [if_neg hne])
    rw [← hn] at hlast hl
    have HLAST := Lib.hid hlast
    have HN := Lib.hid hn
    clear hlast hn hne
    go_enter Tryz.func9, Tryz.ntmps9
    go_wp2_with fail
    refine (ptStates_any t _ ht HT1.out).mono ?_
    rintro e w1 ⟨v, rfl, hst, hb1⟩
    rw [← HN.out] at hst
    have hb01 := hb0.trans (hb1.mono hb0.size)
    obtain ⟨A1, cc, rfl, hcc, hc63⟩ := hst.shape
    obtain ⟨ad, c', st, A', d', hv, hx, hc0, hc1, hc2, hc3, hc4, hi⟩ := hst.own (show n - 1 < n by omega)
    injection hv with e1 e2 e3
    subst e1 e3
    have hst' : st = lastOf (runes t) := by
      have := HLAST.out
      rw [hx] at this
      injection this with this
      rw [this, HLA.out]
    have HST := Lib.hid hst'
    have hf : w1.heap[w.heap.size]? = some (.cells #[.bool false, .bool false, .slice none 0 0, .string ⟨#[]⟩, .string ⟨#[]⟩] 29 (0, 0)) := (hb1.block w.heap.size (by simp)).trans (heap_alloc_new w _)
    have hf0 := frozen_of_row w1 w.heap.size 0 _ _ hf
    have hf1 := frozen_of_row w1 w.heap.size 1 _ _ hf
    have hf2 := frozen_of_row w1 w.heap.size 2 _ _ hf
    have hf3 := frozen_of_row w1 w.heap.size 3 _ _ hf
    have hf4 := frozen_of_row w1 w.heap.size 4 _ _ hf
    have hk0 := cell_of_row w1 w.heap.size 0 _ _ _ hf
    have hk1 := cell_of_row w1 w.heap.size 1 _ _ _ hf
    have hk2 := cell_of_row w1 w.heap.size 2 _ _ _ hf
    have hk3 := cell_of_row w1 w.heap.size 3 _ _ _ hf
    have hk4 := cell_of_row w1 w.heap.size 4 _ _ _ hf
    have hw1 : wrap64 ((n : Int) - 1) = (n : Int) - 1 := IntWalk.wrap64_in _ ⟨by omega, by omega⟩
    have hi1 : (0 : Int) ≤ (n : Int) - 1 := by omega
    have hi2 : (n : Int) - 1 < (n : Int) := by omega
    have hn1 : (n == 0) = false := by rw [beq_eq_false_iff_ne]; omega
    have hn2 : ((n : Int) == 0) = false := by rw [beq_eq_false_iff_ne]; omega
    have HI := Lib.hid hi
    have HF := Lib.hid hf
    clear hst hb1 hb0 hx hst' hi HT HT1 hf
    go_wp2
    have b1 : (w1.setCell ⟨w.heap.size, 0, none⟩ (.bool st.inE)).heap[w.heap.size]? = some (.cells #[.bool st.inE, .bool false, .slice none 0 0, .string ⟨#[]⟩, .string ⟨#[]⟩] 29 (0, 0)) := heap_setCell_same w1 w.heap.size 0 _ _ _ HF.out
    have b2 : ((w1.setCell ⟨w.heap.size, 0, none⟩ (.bool st.inE)).setCell ⟨w.heap.size, 1, none⟩ (.bool st.opened)).heap[w.heap.size]? = some (.cells #[.bool st.inE, .bool st.opened, .slice none 0 0, .string ⟨#[]⟩, .string ⟨#[]⟩] 29 (0, 0)) := heap_setCell_same _ w.heap.size 1 _ _ _ b1
    have b3 := heap_setCell_same _ w.heap.size 2 _ _ (.slice A' st.codes.length d') b2
    have b4 := heap_setCell_same _ w.heap.size 3 _ _ (.string st.seq) b3
    have b5 := heap_setCell_same _ w.heap.size 4 _ _ (.string st.told) b4
    have o5 := own_far_set5 (g := w.heap.size) HI.out (by simp) (.bool st.inE) (.bool st.opened) (.slice A' st.codes.length d') (.string st.seq) (.string st.told)
    have hbf := ((((hb01.setCell (show w.heap.size ≤ (⟨w.heap.size, 0, none⟩ : Addr).block from Nat.le_refl _) (.bool st.inE)).setCell (show w.heap.size ≤ (⟨w.heap.size, 1, none⟩ : Addr).block from Nat.le_refl _) (.bool st.opened)).setCell (show w.heap.size ≤ (⟨w.heap.size, 2, none⟩ : Addr).block from Nat.le_refl _) (.slice A' st.codes.length d')).setCell (show w.heap.size ≤ (⟨w.heap.size, 3, none⟩ : Addr).block from Nat.le_refl _) (.string st.seq)).setCell (show w.heap.size ≤ (⟨w.heap.size, 4, none⟩ : Addr).block from Nat.le_refl _) (.string st.told)
    obtain ⟨A9, c9, hv9, hi9⟩ := own_rd o5
    injection hv9 with e1 e2 e3
    subst e1 e3
    refine bodyPost_ret (results_row_tmp rfl _ _ w.heap.size _ _ _ _ rfl b5 Tryz.underlying29 rfl (by kernel_rfl)) rfl ?_
    rw [← HST.out]
    exact ⟨A', d', rfl, hi9, hbf⟩
  · obtain rfl := size_zero h0
    have n0 : (runes ⟨#[]⟩).length = 0 := by rw [runes_empty]; rfl
    have HST := Lib.hid (show lastOf (runes ⟨#[]⟩) = ⟨false, false, [], ⟨#[]⟩, ⟨#[]⟩⟩ by unfold lastOf; rw [if_pos runes_empty])
    have HN := Lib.hid n0
    clear n0 hl h0 ht
    go_enter Tryz.func9, Tryz.ntmps9
    go_wp2_with fail
    refine (ptStates_any ⟨#[]⟩ _ (by decide) HT1.out).mono ?_
    rintro e w1 ⟨v, rfl, hst, hb1⟩
    rw [HN.out] at hst
    have hb01 := hb0.trans (hb1.mono hb0.size)
    obtain ⟨A1, cc, rfl, hcc, hc63⟩ := hst.shape
    have hf : w1.heap[w.heap.size]? = some (.cells #[.bool false, .bool false, .slice none 0 0, .string ⟨#[]⟩, .string ⟨#[]⟩] 29 (0, 0)) := (hb1.block w.heap.size (by simp)).trans (heap_alloc_new w _)
    have hf0 := frozen_of_row w1 w.heap.size 0 _ _ hf
    have hf1 := frozen_of_row w1 w.heap.size 1 _ _ hf
    have hf2 := frozen_of_row w1 w.heap.size 2 _ _ hf
    have hf3 := frozen_of_row w1 w.heap.size 3 _ _ hf
    have hf4 := frozen_of_row w1 w.heap.size 4 _ _ hf
    have hk0 := cell_of_row w1 w.heap.size 0 _ _ _ hf
    have hk1 := cell_of_row w1 w.heap.size 1 _ _ _ hf
    have hk2 := cell_of_row w1 w.heap.size 2 _ _ _ hf
    have hk3 := cell_of_row w1 w.heap.size 3 _ _ _ hf
    have hk4 := cell_of_row w1 w.heap.size 4 _ _ _ hf
    have HF := Lib.hid hf
    clear hst hb1 hb0 HT HT1 hf
    go_wp2
    have b1 := heap_setCell_same w1 w.heap.size 0 _ _ (.bool false) HF.out
    have b2 := heap_setCell_same _ w.heap.size 1 _ _ (.bool false) b1
    have b3 := heap_setCell_same _ w.heap.size 2 _ _ (.slice none 0 0) b2
    have b4 := heap_setCell_same _ w.heap.size 3 _ _ (.string ⟨#[]⟩) b3
    have b5 := heap_setCell_same _ w.heap.size 4 _ _ (.string ⟨#[]⟩) b4
    have hbf := ((((hb01.setCell (show w.heap.size ≤ (⟨w.heap.size, 0, none⟩ : Addr).block from Nat.le_refl _) (.bool false)).setCell (show w.heap.size ≤ (⟨w.heap.size, 1, none⟩ : Addr).block from Nat.le_refl _) (.bool false)).setCell (show w.heap.size ≤ (⟨w.heap.size, 2, none⟩ : Addr).block from Nat.le_refl _) (.slice none 0 0)).setCell (show w.heap.size ≤ (⟨w.heap.size, 3, none⟩ : Addr).block from Nat.le_refl _) (.string ⟨#[]⟩)).setCell (show w.heap.size ≤ (⟨w.heap.size, 4, none⟩ : Addr).block from Nat.le_refl _) (.string ⟨#[]⟩)
    refine bodyPost_ret (results_row_tmp rfl _ _ w.heap.size _ _ _ _ rfl b5 Tryz.underlying29 rfl (by kernel_rfl)) rfl ?_
    rw [HST.out]
    exact ⟨none, 0, rfl, Rd.nil _ _ _, hbf⟩
end Go.Proofs.YtlclmpiocbkabaaGreatDoor
