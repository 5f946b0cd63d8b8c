/- Plain laws on byte lists: the first place of a text in another one; replacing all; splitting. -/
import Derived.Test.YtlclmpiocbkabaaDoorPlain
import Derived.Lib.Strings
import Derived.Lib.IndexBytes
import Derived.Lib.AppendStr
import Derived.Lib.UnsafeStr
namespace Go.Proofs.YtlclmpiocbkabaaDoor
open Go.RowKit

def eqAt (s p : ByteArray) (k : Nat) : Bool := (s.extract k (k + p.size)).toList == p.toList
def zfind (s p : ByteArray) (k : Nat) : Int := if k + p.size ≤ s.size then (if eqAt s p k = true then (k : Int) else zfind s p (k + 1)) else -1
termination_by s.size + 1 - k
theorem zfind_hit {s p : ByteArray} {k : Nat} (h : k + p.size ≤ s.size) (he : eqAt s p k = true) : zfind s p k = k := by rw [zfind, if_pos h, if_pos he]
theorem zfind_next {s p : ByteArray} {k : Nat} (h : k + p.size ≤ s.size) (he : eqAt s p k = false) : zfind s p k = zfind s p (k + 1) := by
  conv => lhs; rw [zfind, if_pos h, if_neg (by rw [he]; simp)]
theorem zfind_end {s p : ByteArray} {k : Nat} (h : ¬ k + p.size ≤ s.size) : zfind s p k = -1 := by rw [zfind, if_neg h]

/-- The bytes of a text. -/
abbrev bl (s : ByteArray) : List UInt8 := s.data.toList
theorem bl_size (s : ByteArray) : (bl s).length = s.size := (Lib.size_eq s).symm
theorem bl_ext {a b : ByteArray} (h : bl a = bl b) : a = b := by
  cases a; cases b; exact congrArg ByteArray.mk (Array.ext' h)
theorem bl_mk (l : List UInt8) : bl ⟨l.toArray⟩ = l := rfl

theorem eqAt_iff {s p : ByteArray} {k : Nat} (_h : k + p.size ≤ s.size) : eqAt s p k = (bl p).isPrefixOf ((bl s).drop k) := by
  have h1 := bl_size s; have h2 := bl_size p
  unfold eqAt
  rw [Lib.toList_data, Lib.toList_data, Lib.extract_data, Nat.add_sub_cancel_left]
  rw [Bool.eq_iff_iff, beq_iff_eq, List.isPrefixOf_iff_prefix]
  constructor
  · intro e
    exact ⟨_, by rw [show bl p = _ from e.symm]; exact List.take_append_drop p.size _⟩
  · intro e
    rw [← h2]
    exact (List.prefix_iff_eq_take.1 e).symm

def replL (old new : List UInt8) : List UInt8 → List UInt8
  | [] => []
  | x :: t => if old.isPrefixOf (x :: t) = true then new ++ replL old new (t.drop (old.length - 1)) else x :: replL old new t
termination_by l => l.length
decreasing_by all_goals (simp_wf; try omega)
theorem replL_nil (old new : List UInt8) : replL old new [] = [] := by rw [replL]
theorem replL_hit {old : List UInt8} (new : List UInt8) {x : UInt8} {t : List UInt8} (h : old.isPrefixOf (x :: t) = true) : replL old new (x :: t) = new ++ replL old new (t.drop (old.length - 1)) := by
  conv => lhs; rw [replL, if_pos h]
theorem replL_miss {old : List UInt8} (new : List UInt8) {x : UInt8} {t : List UInt8} (h : old.isPrefixOf (x :: t) = false) : replL old new (x :: t) = x :: replL old new t := by
  conv => lhs; rw [replL, if_neg (by rw [h]; simp)]

def splitL (sep : List UInt8) : List UInt8 → List (List UInt8)
  | [] => [[]]
  | x :: t => if sep.isPrefixOf (x :: t) = true then [] :: splitL sep (t.drop (sep.length - 1)) else match splitL sep t with
    | [] => [[x]]
    | h :: r => (x :: h) :: r
termination_by l => l.length
decreasing_by all_goals (simp_wf; try omega)
theorem splitL_nil (sep : List UInt8) : splitL sep [] = [[]] := by rw [splitL]
theorem splitL_hit {sep : List UInt8} {x : UInt8} {t : List UInt8} (h : sep.isPrefixOf (x :: t) = true) : splitL sep (x :: t) = [] :: splitL sep (t.drop (sep.length - 1)) := by
  conv => lhs; rw [splitL, if_pos h]
theorem splitL_miss {sep : List UInt8} {x : UInt8} {t : List UInt8} (h : sep.isPrefixOf (x :: t) = false) : splitL sep (x :: t) = match splitL sep t with | [] => [[x]] | h :: r => (x :: h) :: r := by
  conv => lhs; rw [splitL, if_neg (by rw [h]; simp)]

theorem short_prefix {p l : List UInt8} (h : l.length < p.length) : p.isPrefixOf l = false := by
  cases e : p.isPrefixOf l with
  | false => rfl
  | true => have := (List.isPrefixOf_iff_prefix.1 e).length_le; omega
theorem replL_short {old : List UInt8} (new : List UInt8) : ∀ (l : List UInt8), l.length < old.length → replL old new l = l
  | [], _ => replL_nil _ _
  | x :: t, h => by rw [replL_miss new (short_prefix h), replL_short new t (by simp at h; omega)]
theorem splitL_short {sep : List UInt8} : ∀ (l : List UInt8), l.length < sep.length → splitL sep l = [l]
  | [], _ => splitL_nil _
  | x :: t, h => by rw [splitL_miss (short_prefix h), splitL_short t (by simp at h; omega)]

theorem drop_cons {α : Type} {l : List α} {k : Nat} (h : k < l.length) : l.drop k = l[k] :: l.drop (k + 1) := List.drop_eq_getElem_cons h

theorem zfind_spec (s p : ByteArray) (new : List UInt8) (hp : 0 < p.size) (k : Nat) (hk : k ≤ s.size) :
    (zfind s p k = -1 ∧ replL (bl p) new ((bl s).drop k) = (bl s).drop k ∧ splitL (bl p) ((bl s).drop k) = [(bl s).drop k]) ∨
    ∃ i : Nat, zfind s p k = i ∧ k ≤ i ∧ i + p.size ≤ s.size ∧ replL (bl p) new ((bl s).drop k) = ((bl s).drop k).take (i - k) ++ (new ++ replL (bl p) new ((bl s).drop (i + p.size))) ∧ splitL (bl p) ((bl s).drop k) = ((bl s).drop k).take (i - k) :: splitL (bl p) ((bl s).drop (i + p.size)) := by
  have h1 := bl_size s; have h2 := bl_size p
  by_cases h : k + p.size ≤ s.size
  · have hd := drop_cons (l := bl s) (k := k) (by omega)
    cases he : eqAt s p k with
    | true =>
      refine Or.inr ⟨k, zfind_hit h he, Nat.le_refl _, h, ?_⟩
      rw [eqAt_iff h] at he
      have e2 : ((bl s).drop (k + 1)).drop ((bl p).length - 1) = (bl s).drop (k + p.size) := by rw [List.drop_drop]; congr 1; omega
      rw [hd] at he ⊢
      rw [replL_hit new he, splitL_hit he, e2, Nat.sub_self]
      exact ⟨rfl, rfl⟩
    | false =>
      have hn := zfind_next h he
      rw [eqAt_iff h] at he
      have ih := zfind_spec s p new hp (k + 1) (by omega)
      rw [hn]
      rw [hd] at he ⊢
      rw [replL_miss new he, splitL_miss he]
      rcases ih with ⟨a, b, c⟩ | ⟨i, a, b, c, d, e⟩
      · exact Or.inl ⟨a, by rw [b], by rw [c]⟩
      · refine Or.inr ⟨i, a, by omega, c, ?_, ?_⟩
        · rw [d, show i - k = (i - (k + 1)) + 1 by omega, List.take_succ_cons]; rfl
        · rw [e, show i - k = (i - (k + 1)) + 1 by omega, List.take_succ_cons]
  · have hl : ((bl s).drop k).length < (bl p).length := by rw [List.length_drop]; omega
    exact Or.inl ⟨zfind_end h, replL_short new _ hl, splitL_short _ hl⟩
termination_by s.size - k
decreasing_by omega

/-- A row of bytes of the program's own make. -/
def OwnBytes (w : World) (base T : TypeId) (v : Value) (l : List UInt8) : Prop := w.ownsRow base T 1 v l.length (Lib.byteCells l)
theorem run_str_own {P : Program} {w : World} {base T : Nat} {A : Option Addr} {n c : Nat} {l : List UInt8} (h : OwnBytes w base T (.slice A n c) l) (src dst : TypeId) (hs : P.underlying src = some (.slice T)) (he : P.underlying T = some (.int .u8)) (hd : P.underlying dst = some .string) :
    (convert src dst (.slice A n c)).run P w = .ok (.string ⟨l.toArray⟩) w := by
  rcases h.2 with ⟨hv, hl⟩ | ⟨g, cap, cur, hv, _, hh, hn, _, hcs, ht⟩
  · injection hv with h1 h2 h3
    subst h1; subst h2; subst h3
    obtain rfl := List.eq_nil_of_length_eq_zero hl
    rw [run_convert_bytes_nil w src T hs he 0 0 dst hd]
    rfl
  · injection hv with h1 h2 h3
    subst h1; subst h2; subst h3
    have hcells := World.ownsRow.cells (base := base) (e := T) (size := 1) (n := l.length) (xs := Lib.byteCells l) h rfl
    have := run_convert_bytes_arg w src T hs he g 0 l.length c (l.map fun b => (b.toNat : Int)) (by simp) (fun i hi => by
      have h1 := hcells i (.int .u8 (l[i].toNat)) (by simp [Lib.byteCells, List.getElem?_map, List.getElem?_eq_getElem hi])
      have : (⟨g, 0, none⟩ : Addr).add i = ⟨g, 0 + i, none⟩ := by unfold Addr.add; split <;> simp_all
      rw [← this, h1]
      simp [List.getD, List.getElem?_map, List.getElem?_eq_getElem hi]) dst hd
    rw [this]
    congr 2
    apply bl_ext
    show (strOfNums _).data.toList = l
    rw [strOfNums_data, List.map_map]
    conv => rhs; rw [← List.map_id l]
    apply List.map_congr_left
    intro b _
    simp
end Go.Proofs.YtlclmpiocbkabaaDoor
