/- Walks of text.toTitle, its function value and strings.Map under it, of a text of ASCII. Condition: the size that is named. -/
import Derived.Test.YtlclmpiocbkabaaDoorShelf
import Derived.Test.YtlclmpiocbkabaaDoorPlain
import Derived.Test.YtlclmpiocbkabaaDoorUtf
import Derived.Test.YtlclmpiocbkabaaDoorKnown
import Derived.Test.YtlclmpiocbkabaaDoorWords
import Derived.Lib.Hide
namespace Go.Proofs.YtlclmpiocbkabaaDoor
open Go.RowKit
set_option linter.unusedVariables false
set_option linter.unusedSimpArgs false

/-! ### plain -/
def sepB (p : UInt8) : Bool := !(decide (48 ≤ p.toNat ∧ p.toNat ≤ 57) || decide (97 ≤ p.toNat ∧ p.toNat ≤ 122) || decide (65 ≤ p.toNat ∧ p.toNat ≤ 90) || decide (p.toNat = 95))
def upB (b : UInt8) : UInt8 := if 97 ≤ b.toNat ∧ b.toNat ≤ 122 then b - 32 else b
def inB (e : Bool) (b : UInt8) : Bool := e || decide (b.toNat = 27)
def escB (e : Bool) (b : UInt8) : Bool := if inB e b = true ∧ b.toNat = 109 then false else inB e b
def prevB (e : Bool) (p b : UInt8) : UInt8 := if inB e b = true then p else b
def outB (e : Bool) (p b : UInt8) : UInt8 := if inB e b = true then b else if sepB p = true then upB b else b
def titleT : Bool → UInt8 → List UInt8 → List UInt8
  | _, _, [] => []
  | e, p, b :: t => outB e p b :: titleT (escB e b) (prevB e p b) t
theorem upB_val {b : UInt8} (h : b.toNat < 128) : ((upB b).toNat : Int) = Lib.toUpperR b.toNat := by
  have key : ∀ i : Fin 128, ((upB (UInt8.ofNat i.val)).toNat : Int) = Lib.toUpperR ((UInt8.ofNat i.val).toNat : Nat) := by decide
  have := key ⟨b.toNat, h⟩
  simpa using this
theorem upB_lt {b : UInt8} (h : b.toNat < 128) : (upB b).toNat < 128 := by
  have h1 := upB_val h
  unfold Lib.toUpperR at h1
  split at h1 <;> omega
theorem outB_lt {e : Bool} {p b : UInt8} (h : b.toNat < 128) : (outB e p b).toNat < 128 := by
  unfold outB
  repeat' split
  · exact h
  · exact upB_lt h
  · exact h
theorem prevB_lt {e : Bool} {p b : UInt8} (hp : p.toNat < 128) (h : b.toNat < 128) : (prevB e p b).toNat < 128 := by
  unfold prevB
  split
  · exact hp
  · exact h

/-! ### the function value -/
def TitleAt (w : World) (a : Nat) (e : Bool) (p : UInt8) : Prop := w.heap[a]? = some (.cells #[.int .i32 p.toNat] 21 (0, 0)) ∧ w.heap[a + 1]? = some (.cells #[.bool e] 4 (0, 0))
def Upd (a : Nat) (w w' : World) : Prop := w' = w ∨ (∃ v, w' = w.setCell ⟨a, 0, none⟩ v) ∨ (∃ v, w' = w.setCell ⟨a + 1, 0, none⟩ v)
theorem Upd.block {a k : Nat} {w w' : World} (h : Upd a w w') (h1 : k ≠ a) (h2 : k ≠ a + 1) : w'.heap[k]? = w.heap[k]? := by
  rcases h with rfl | ⟨v, rfl⟩ | ⟨v, rfl⟩
  · rfl
  · exact heap_setCell_other _ ⟨a, 0, none⟩ _ _ h1
  · exact heap_setCell_other _ ⟨a + 1, 0, none⟩ _ _ h2
theorem Upd.size {a : Nat} {w w' : World} (h : Upd a w w') : w'.heap.size = w.heap.size := by
  rcases h with rfl | ⟨v, rfl⟩ | ⟨v, rfl⟩ <;> simp [World.setCell]
theorem Upd.below {a : Nat} {w w' : World} (h : Upd a w w') : Below a w w' := by
  rcases h with rfl | ⟨v, rfl⟩ | ⟨v, rfl⟩
  · exact Below.refl _ _
  · exact (Below.refl a w).setCell (show a ≤ (⟨a, 0, none⟩ : Addr).block from Nat.le_refl _) _
  · exact (Below.refl a w).setCell (show a ≤ (⟨a + 1, 0, none⟩ : Addr).block from Nat.le_succ _) _
theorem grown_set (w : World) (j i : Nat) (v : Value) : w.grownBy (w.setCell ⟨j, i, none⟩ v) (some j) :=
  ⟨rfl, rfl, rfl, by simp [World.setCell], fun k hk hne => heap_setCell_other _ ⟨j, i, none⟩ _ _ (fun e => hne (by rw [e]))⟩
theorem Upd.builder {T e : TypeId} {B b a : Nat} {p : Value} {bs : List Value} {w w' : World} (h : Lib.BuilderAtF T e B b p bs w) (hu : Upd a w w') (hB : a + 1 < B) : Lib.BuilderAtF T e B b p bs w' := by
  have one : ∀ j, j < B → ∀ v, Lib.BuilderAtF T e B b p bs (w.setCell ⟨j, 0, none⟩ v) := by
    intro j hj v
    obtain ⟨h1, u, h2, h3, h4⟩ := h
    refine ⟨h1, u, (heap_setCell_other _ ⟨j, 0, none⟩ _ _ (by show b ≠ j; omega)).trans h2, h3.kept (row := some j) (grown_set w j 0 v) ?_, h4⟩
    refine (Classical.em _).imp id fun hn he => ?_
    have := World.ownsRowF.lt h3 j he
    omega
  rcases hu with rfl | ⟨v, rfl⟩ | ⟨v, rfl⟩
  · exact h
  · exact one a (by omega) v
  · exact one (a + 1) hB v

set_option maxHeartbeats 4000000 in
theorem sep_any (p : UInt8) (w : World) (h : p.toNat < 128) : Calls Tryd.prog 59 #[.int .i32 p.toNat] w fun e w' => e = .returned (.bool (sepB p)) ∧ w = w' := by
  obtain ⟨r, hr⟩ : ∃ r : Int, r = (p.toNat : Int) := ⟨_, rfl⟩
  have HB := Lib.hid (show sepB p = !(decide (48 ≤ r ∧ r ≤ 57) || decide (97 ≤ r ∧ r ≤ 122) || decide (65 ≤ r ∧ r ≤ 90) || decide (r = 95)) by
    unfold sepB
    rw [hr]
    congr 1
    simp only [Bool.decide_and]
    rw [Bool.eq_iff_iff]
    simp
    omega)
  rw [← hr]
  have h1 : r ≤ 127 := by omega
  have h0 : 0 ≤ r := by omega
  clear hr h
  by_cases h95 : r = 95
  · subst h95
    go_enter Tryd.func59, Tryd.ntmps59
    go_wp2
    go_ret
    exact ⟨ret_bool (by rw [HB.out]; rfl), rfl⟩
  have q95 : (r == 95) = false := by rw [beq_eq_false_iff_ne]; exact h95
  go_enter Tryd.func59, Tryd.ntmps59
  go_wp2
  all_goals (go_ret; exact ⟨ret_bool (by rw [HB.out, Bool.eq_iff_iff]; simp; try omega), rfl⟩)

set_option maxRecDepth 100000 in
set_option maxHeartbeats 8000000 in
theorem title1_any (a : Nat) (e : Bool) (p b : UInt8) (w : World) (h : TitleAt w a e p) (hp : p.toNat < 128) (hb : b.toNat < 128) :
    Calls Tryd.prog 58 #[.int .i32 b.toNat, .pointer (some ⟨a + 1, 0, none⟩), .pointer (some ⟨a, 0, none⟩)] w fun r w' => r = .returned (.int .i32 (outB e p b).toNat) ∧ TitleAt w' a (escB e b) (prevB e p b) ∧ Upd a w w' := by
  obtain ⟨h1, h2⟩ := h
  have c1 : w.cell? ⟨a, 0, none⟩ = some (.int .i32 p.toNat) := cell_of_row w a 0 _ _ _ h1
  have c2 : w.cell? ⟨a + 1, 0, none⟩ = some (.bool e) := cell_of_row w (a + 1) 0 _ _ _ h2
  have f1 := frozen_of_row w a 0 _ _ h1
  have f2 := frozen_of_row w (a + 1) 0 _ _ h2
  have b127 : (b.toNat : Int) ≤ 127 := by omega
  by_cases h27 : b.toNat = 27
  · have hin : inB e b = true := by unfold inB; rw [h27]; simp
    have HO := Lib.hid (show outB e p b = b by unfold outB; rw [if_pos hin])
    have HE := Lib.hid (show escB e b = true by unfold escB; rw [if_neg (by omega), hin])
    have HP := Lib.hid (show prevB e p b = p by unfold prevB; rw [if_pos hin])
    have hset := heap_setCell_same w (a + 1) 0 _ _ (.bool true) h2
    have hoth : (w.setCell ⟨a + 1, 0, none⟩ (.bool true)).heap[a]? = _ := (heap_setCell_other w ⟨a + 1, 0, none⟩ a _ (by show a ≠ a + 1; omega)).trans h1
    have HS := Lib.hid hset
    have HT := Lib.hid hoth
    have hq : ((b.toNat : Int) == 27) = true := by rw [h27]; rfl
    have hq2 : (b.toNat == 27) = true := by rw [h27]; rfl
    have hm : ((b.toNat : Int) == 109) = false := by rw [h27]; rfl
    have hm2 : (b.toNat == 109) = false := by rw [h27]; rfl
    have HH := Lib.hid h27
    clear h1 h2 h27 hin hset hoth
    go_enter Tryd.func58, Tryd.ntmps58
    go_wp2
    go_ret
    rw [HO.out, HE.out, HP.out]
    exact ⟨rfl, ⟨HT.out, HS.out⟩, Or.inr (Or.inr ⟨_, rfl⟩)⟩
  · have hq : ((b.toNat : Int) == 27) = false := by rw [beq_eq_false_iff_ne]; omega
    have hq2 : (b.toNat == 27) = false := by rw [beq_eq_false_iff_ne]; omega
    cases e with
    | true =>
      have hin : inB true b = true := rfl
      have HO := Lib.hid (show outB true p b = b by unfold outB; rw [if_pos hin])
      have HP := Lib.hid (show prevB true p b = p by unfold prevB; rw [if_pos hin])
      by_cases h109 : b.toNat = 109
      · have HE := Lib.hid (show escB true b = false by unfold escB; rw [if_pos ⟨hin, h109⟩])
        have hset := heap_setCell_same w (a + 1) 0 _ _ (.bool false) h2
        have hoth : (w.setCell ⟨a + 1, 0, none⟩ (.bool false)).heap[a]? = _ := (heap_setCell_other w ⟨a + 1, 0, none⟩ a _ (by show a ≠ a + 1; omega)).trans h1
        have HS := Lib.hid hset
        have HT := Lib.hid hoth
        have hm : ((b.toNat : Int) == 109) = true := by rw [h109]; rfl
        have hm2 : (b.toNat == 109) = true := by rw [h109]; rfl
        clear h1 h2 h27 hin h109 hset hoth
        go_enter Tryd.func58, Tryd.ntmps58
        go_wp2
        go_ret
        rw [HO.out, HE.out, HP.out]
        exact ⟨rfl, ⟨HT.out, HS.out⟩, Or.inr (Or.inr ⟨_, rfl⟩)⟩
      · have HE := Lib.hid (show escB true b = true by unfold escB; rw [if_neg (fun q => h109 q.2)]; rfl)
        have hm : ((b.toNat : Int) == 109) = false := by rw [beq_eq_false_iff_ne]; omega
        have hm2 : (b.toNat == 109) = false := by rw [beq_eq_false_iff_ne]; omega
        have HS := Lib.hid h1
        have HT := Lib.hid h2
        clear h1 h2 h27 hin h109
        go_enter Tryd.func58, Tryd.ntmps58
        go_wp2
        go_ret
        rw [HO.out, HE.out, HP.out]
        exact ⟨rfl, ⟨HS.out, HT.out⟩, Or.inl rfl⟩
    | false =>
      have hin : inB false b = false := by unfold inB; simp; exact h27
      have HE := Lib.hid (show escB false b = false by unfold escB; rw [if_neg (by rw [hin]; simp), hin])
      have HP := Lib.hid (show prevB false p b = b by unfold prevB; rw [if_neg (by rw [hin]; simp)])
      have hset := heap_setCell_same w a 0 _ _ (.int .i32 b.toNat) h1
      have hoth : (w.setCell ⟨a, 0, none⟩ (.int .i32 b.toNat)).heap[a + 1]? = _ := (heap_setCell_other w ⟨a, 0, none⟩ (a + 1) _ (by show a + 1 ≠ a; omega)).trans h2
      have HS := Lib.hid hset
      have HT := Lib.hid hoth
      cases hs : sepB p with
      | true =>
        have HSP := Lib.hid hs
        have HO := Lib.hid (show ((outB false p b).toNat : Int) = Lib.toUpperR b.toNat by unfold outB; rw [if_neg (by rw [hin]; simp), if_pos hs, upB_val hb])
        obtain ⟨u, hu⟩ : ∃ u : Int, u = Lib.toUpperR b.toNat := ⟨_, rfl⟩
        have HU := Lib.hid hu
        clear h1 h2 h27 hin hset hoth hs hu
        go_enter Tryd.func58, Tryd.ntmps58
        go_wp2_with fail
        refine (sep_any p _ hp).mono ?_
        rintro e w2 ⟨rfl, rfl⟩
        rw [HSP.out]
        go_wp2_with fail
        refine (Tryd.unicode_ToUpper b.toNat _ b127).mono ?_
        rintro e w2 ⟨rfl, rfl⟩
        rw [← HU.out]
        go_wp2
        go_ret
        rw [HO.out, ← HU.out, HE.out, HP.out]
        exact ⟨rfl, ⟨HS.out, HT.out⟩, Or.inr (Or.inl ⟨_, rfl⟩)⟩
      | false =>
        have HSP := Lib.hid hs
        have HO := Lib.hid (show outB false p b = b by unfold outB; rw [if_neg (by rw [hin]; simp), if_neg (by rw [hs]; simp)])
        clear h1 h2 h27 hin hset hoth hs
        go_enter Tryd.func58, Tryd.ntmps58
        go_wp2_with fail
        refine (sep_any p _ hp).mono ?_
        rintro e w2 ⟨rfl, rfl⟩
        rw [HSP.out]
        go_wp2
        go_ret
        rw [HO.out, HE.out, HP.out]
        exact ⟨rfl, ⟨HS.out, HT.out⟩, Or.inr (Or.inl ⟨_, rfl⟩)⟩
end Go.Proofs.YtlclmpiocbkabaaDoor
