/- Walks of the Builder calls and of strings.Join: what they make. Condition: sizes below the bounds that are named. -/
import Derived.Test.YtlclmpiocbkabaaDoorShelf
import Derived.Test.YtlclmpiocbkabaaDoorSplit
import Derived.Test.YtlclmpiocbkabaaDoorKnown
namespace Go.Proofs.YtlclmpiocbkabaaDoor
open Go.RowKit

/-- A builder of the program's own make (in block b), and the bytes that it holds. -/
def Bld (w : World) (B b : Nat) (l : List UInt8) : Prop := Lib.IsBuilderF 82 5 B b (Lib.byteCells l) w
theorem Bld.fresh (w : World) : Bld (w.alloc (.cells #[.pointer none, .slice none 0 0] 82)) w.heap.size w.heap.size [] := Lib.IsBuilderF.of (Lib.fresh_isBuilder _ _ w)
theorem Bld.lt {w : World} {B b : Nat} {l : List UInt8} (h : Bld w B b l) : B ≤ b ∧ b < w.heap.size := by
  rcases h with h | h <;> exact ⟨h.1, h.lt⟩
theorem ownsF_keep {w w' : World} {base e size n : Nat} {v : Value} {xs : List Value} (h : w.ownsRowF base e size v n xs) (hk : ∀ k, k < w.heap.size → w'.heap[k]? = w.heap[k]?) : w'.ownsRowF base e size v n xs := by
  obtain ⟨h1, h2⟩ := h
  refine ⟨h1, ?_⟩
  rcases h2 with h2 | ⟨g, cap, cur, fz, hv, hg, hh, r⟩
  · exact Or.inl h2
  · exact Or.inr ⟨g, cap, cur, fz, hv, hg, by rw [hk g (Array.getElem?_eq_some_iff.1 hh).1]; exact hh, r⟩
theorem Bld.below {w w' : World} {B b : Nat} {l : List UInt8} (h : Bld w B b l) (hb : Below w.heap.size w w') : Bld w' B b l := by
  have key : ∀ p, Lib.BuilderAtF 82 5 B b p (Lib.byteCells l) w → Lib.BuilderAtF 82 5 B b p (Lib.byteCells l) w' := by
    intro p hp
    have hlt := hp.lt
    obtain ⟨h1, v, h2, h3, h4⟩ := hp
    exact ⟨h1, v, (hb.block b hlt).trans h2, ownsF_keep h3 fun k hk => hb.block k hk, h4⟩
  rcases h with h | h
  · exact Or.inl (key _ h)
  · exact Or.inr (key _ h)
theorem Bld.drewN {w : World} {B b : Nat} {l : List UInt8} (h : Bld w B b l) (n : Nat) : Bld (w.drewN n) B b l := h
theorem Bld.iterAt {w : World} {B b k : Nat} {l : List UInt8} {s : ByteArray} {pos : Nat} (h : Bld w B b l) (hk : w.heap[k]? = some (.stringIter s pos)) (pos' : Nat) : Bld (w.iterAt k s pos') B b l := Lib.IsBuilderF.iterAt h hk pos'

theorem bl_cells (l : List UInt8) (s : ByteArray) : Lib.byteCells (l ++ bl s) = Lib.byteCells l ++ Lib.strCells s := by simp [Lib.byteCells, Lib.strCells, bl]
theorem cells_len (l : List UInt8) : (Lib.byteCells l).length = l.length := by simp [Lib.byteCells]

theorem bld_write (B b : Nat) (l : List UInt8) (s : ByteArray) (w : World) (h : Bld w B b l) (hlen : l.length + s.size ≤ 140737488355328) (hB : B ≤ w.heap.size) :
    Calls Tryd.prog 48 #[.pointer (some ⟨b, 0, none⟩), .string s] w fun e w' => e = .returned (.tuple #[.int .i64 s.size, .nilIface]) ∧ Bld w' B b (l ++ bl s) ∧ Below B w w' ∧ Lib.OthersKept 5 (some b) w w' :=
  (Tryd.Builder_WriteString_k B b _ s w h (by rw [cells_len]; exact hlen) hB).mono fun e w' ⟨h1, h2, h3, h4⟩ => ⟨h1, Or.inr (by rw [bl_cells]; exact h2), h3, h4⟩
theorem bld_string (B b : Nat) (l : List UInt8) (w : World) (h : Bld w B b l) (hB : B ≤ w.heap.size) :
    Calls Tryd.prog 51 #[.pointer (some ⟨b, 0, none⟩)] w fun e w' => e = .returned (.string ⟨l.toArray⟩) ∧ Bld w' B b l ∧ Below B w w' ∧ Lib.OthersKept 5 (some b) w w' :=
  Tryd.Builder_String_any_k B b l w h hB
theorem bld_rune (B b : Nat) (l : List UInt8) (r : Int) (h0 : -2147483648 ≤ r) (h1 : r ≤ 2147483647) (w : World) (h : Bld w B b l) (hlen : l.length + 4 ≤ 140737488355328) (hB : B ≤ w.heap.size) :
    Calls Tryd.prog 49 #[.pointer (some ⟨b, 0, none⟩), .int .i32 r] w fun e w' => e = .returned (.tuple #[.int .i64 (Lib.runeCells r).length, .nilIface]) ∧ Bld w' B b (l ++ Lib.encodeRune r) ∧ Below B w w' ∧ Lib.OthersKept 5 (some b) w w' :=
  (Tryd.Builder_WriteRune_k B b _ r h0 h1 w h (by rw [cells_len]; exact hlen) hB).mono fun e w' ⟨a1, a2, a3, a4⟩ => ⟨a1, Or.inr (by rw [Lib.byteCells_append, Lib.byteCells_encodeRune]; exact a2), a3, a4⟩
theorem bld_grow (B b n : Nat) (w : World) (hB : B ≤ b) (hbk : w.heap[b]? = some (.cells #[.pointer none, .slice none 0 0] 82 (0, 0))) (hBw : B ≤ w.heap.size) (hn : n ≤ 281474976710656) :
    Calls Tryd.prog 54 #[.pointer (some ⟨b, 0, none⟩), .int .i64 n] w fun e w' => e = .returned (.tuple #[]) ∧ Bld w' B b [] ∧ Below B w w' :=
  (Tryd.Builder_Grow_fresh B b n w hB hbk hBw hn).mono fun _ _ ⟨h1, h2, h3⟩ => ⟨h1, Lib.IsBuilderF.of (Or.inr h2), h3⟩

end Go.Proofs.YtlclmpiocbkabaaDoor
