/- Plain words on texts: a string's characters, as the model's own decode tells them. -/
import Derived.Lib.RuneCount
import Derived.WalkSmall
import Derived.Laws.IdiomStrings
import Derived.Test.YtlclmpiocbkabaaDoorWords
import Derived.Lib.OthersKept
namespace Go.Proofs.YtlclmpiocbkabaaDoor
open Go.RowKit

/-- The characters of s from place pos on. -/
def runesFrom (s : ByteArray) (pos : Nat) : List Int :=
  if _h : pos < s.size then ((Utf8.decode s pos).1 : Int) :: runesFrom s (pos + (Utf8.decode s pos).2) else []
termination_by s.size - pos
decreasing_by have := Lib.decode_width_pos s pos _h; omega

theorem runesFrom_step {s : ByteArray} {pos : Nat} (h : pos < s.size) : runesFrom s pos = ((Utf8.decode s pos).1 : Int) :: runesFrom s (pos + (Utf8.decode s pos).2) := by
  rw [runesFrom, dif_pos h]
theorem runesFrom_end {s : ByteArray} {pos : Nat} (h : ¬ pos < s.size) : runesFrom s pos = [] := by
  rw [runesFrom, dif_neg h]

def runes (s : ByteArray) : List Int := runesFrom s 0


theorem decode_le_max (s : ByteArray) (pos : Nat) : (Utf8.decode s pos).1 ≤ 1114111 := by
  have hb : ∀ k, (s.get! (pos + k)).toNat < 256 := fun k => UInt8.toNat_lt _
  have h0 := hb 0; have h1 := hb 1; have h2 := hb 2; have h3 := hb 3
  unfold Utf8.decode
  simp only [Utf8.runeError]
  repeat' split
  all_goals simp_all [Utf8.valid]
  all_goals omega

theorem decode_in (s : ByteArray) (pos : Nat) (h : pos < s.size) : pos + (Utf8.decode s pos).2 ≤ s.size := by
  unfold Utf8.decode
  simp only [Utf8.runeError]
  repeat' split
  all_goals simp_all
  all_goals omega

/-- One step of a range over a text: the iterator in block K. -/
theorem iter_next {P : Program} {wr w : World} {K B : Nat} {s : ByteArray} {pos : Nat} (hit : wr.heap[K]? = some (.stringIter s pos)) (hp : pos < s.size) (hbw : Below B w wr) (hB : B ≤ K) :
    ∃ (r : Int) (pos2 : Nat) (wr2 : World), runesFrom s pos = r :: runesFrom s pos2 ∧ 0 ≤ r ∧ r ≤ 1114111 ∧ pos < pos2 ∧ pos2 ≤ s.size ∧ wr2.heap[K]? = some (.stringIter s pos2) ∧ Below B w wr2 ∧ wr2.heap.size = wr.heap.size ∧ (∀ j, j ≠ K → wr2.heap[j]? = wr.heap[j]?) ∧
      ∀ ty, (Instr.next (.pointer (some ⟨K, 0, none⟩)) true ty).run P wr = .ok (.tuple #[.bool true, .int .i64 pos, .int .i32 r]) wr2 :=
  ⟨_, _, _, runesFrom_step hp, by omega, by have := decode_le_max s pos; omega, by have := Lib.decode_width_pos s pos hp; omega, decode_in s pos hp, Lib.iterAt_heap wr K s pos _ hit, Lib.below_iterAt hbw hB s _, Lib.iterAt_size .., fun _ h => Lib.iterAt_other _ _ _ _ _ h, fun ty => Lib.run_next_any_at wr K s pos ty hit hp⟩


theorem runesFrom_length (s : ByteArray) (pos : Nat) : (runesFrom s pos).length ≤ s.size - pos := by
  by_cases h : pos < s.size
  · rw [runesFrom_step h]
    have hw := Lib.decode_width_pos s pos h
    have ih := runesFrom_length s (pos + (Utf8.decode s pos).2)
    simp; omega
  · rw [runesFrom_end h]; simp
termination_by s.size - pos
theorem runes_length (s : ByteArray) : (runes s).length ≤ s.size := runesFrom_length s 0

theorem conv_runes (s : ByteArray) : ∀ (k pos : Nat) (acc : Array Value), s.size ≤ pos + k → (Conv.runesFrom s k pos acc).toList = acc.toList ++ (runesFrom s pos).map (Value.int .i32)
  | 0, pos, acc, h => by rw [runesFrom_end (by omega)]; simp [Conv.runesFrom]
  | k + 1, pos, acc, h => by
    by_cases hp : pos < s.size
    · have hw := Lib.decode_width_pos s pos hp
      have e : Conv.runesFrom s (k + 1) pos acc = Conv.runesFrom s k (pos + (Utf8.decode s pos).2) (acc.push (.int .i32 (Int.ofNat (Utf8.decode s pos).1))) := by
        rw [Conv.runesFrom, if_pos hp]
      rw [runesFrom_step hp, e, conv_runes s k _ _ (by omega), Array.toList_push, List.append_assoc]
      rfl
    · rw [runesFrom_end hp, Conv.runesFrom, if_neg hp]; simp

/-- []rune(s), in whatever world: a slice that reads as the text's characters. -/
theorem run_runes {P : Program} (w : World) (src dst e : TypeId) (s : ByteArray) (hs : P.underlying src = some .string) (hd : P.underlying dst = some (.slice e)) (he : P.underlying e = some (.int .i32)) (h46 : s.size ≤ 70368744177664) :
    ∃ c w1, (convert src dst (.string s)).run P w = .ok (.slice (some ⟨w.heap.size, 0, none⟩) (runes s).length c) w1 ∧ Below w.heap.size w w1 ∧ w1.heap.size = w.heap.size + 1 ∧ RunesAt w1 (w.heap.size + 1) (some ⟨w.heap.size, 0, none⟩) (runes s).length c (runes s) ∧
      w1.ownsRow w.heap.size e 1 (.slice (some ⟨w.heap.size, 0, none⟩) (runes s).length c) (runes s).length ((runes s).map (Value.int .i32)) := by
  have hl := conv_runes s s.size 0 #[] (by omega)
  have hsz : (Conv.runesFrom s s.size 0 #[]).size = (runes s).length := by rw [← Array.length_toList, hl]; simp [runes]
  have h := run_runes_of_string (P := P) w src dst e s hs hd he (by rw [hsz]; have := runes_length s; omega)
  rw [hsz] at h
  have hge := grownCap_ge w (runes s).length 0 e
  have hmx := grownCap_le_maxLen w (runes s).length 0 e (by have := runes_length s; unfold maxLen; omega)
  generalize hc : grownCap w (runes s).length 0 e = c at *
  generalize hcs : (Conv.runesFrom s s.size 0 #[] ++ Array.replicate (c - (runes s).length) (Value.int .i32 0)) = cs at *
  have hcl : cs.toList.take (runes s).length = (runes s).map (Value.int .i32) := by
    rw [← hcs, Array.toList_append, hl]
    simp only [List.nil_append]
    rw [show runesFrom s 0 = runes s from rfl, List.take_append_of_le_length (by simp)]
    rw [List.take_of_length_le (by simp)]
  have hcz : cs.size = c := by rw [← hcs, Array.size_append, hsz]; simp; omega
  refine ⟨c, _, h, ((Below.refl _ w).drew).alloc (Nat.le_refl _) _, by simp, ?_⟩
  have hown : ((w.drew).alloc (.cells cs e)).ownsRow w.heap.size e 1 (.slice (some ⟨w.heap.size, 0, none⟩) (runes s).length c) (runes s).length ((runes s).map (Value.int .i32)) :=
    ⟨by simp, Or.inr ⟨w.heap.size, c, cs, rfl, Nat.le_refl _, heap_alloc_new w.drew _, hge, hmx, by omega, by rw [Nat.mul_one]; exact hcl⟩⟩
  refine ⟨?_, hown⟩
  obtain ⟨A, c', hv, hr⟩ := own_rd hown
  injection hv with h1 h2 h3
  subst h1; subst h3
  have : ((w.drew).alloc (.cells cs e)).heap.size = w.heap.size + 1 := by simp
  rw [this] at hr
  exact hr
end Go.Proofs.YtlclmpiocbkabaaDoor
