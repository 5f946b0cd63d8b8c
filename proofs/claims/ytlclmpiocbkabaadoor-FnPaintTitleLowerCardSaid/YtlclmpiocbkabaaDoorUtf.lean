/- Plain laws on texts: the characters of texts that stand one behind the other; bytes below 128. -/
import Derived.Test.YtlclmpiocbkabaaDoorSplit
namespace Go.Proofs.YtlclmpiocbkabaaDoor
open Go.RowKit

theorem get_at (s : ByteArray) (i : Nat) : s.get! i = (bl s)[i]?.getD 0 := by
  by_cases h : i < s.size
  · have h2 : i < (bl s).length := by rw [bl_size]; exact h
    rw [List.getElem?_eq_getElem h2]
    simp [ByteArray.get!, bl]
    rw [getElem!_pos s.data i h]
  · have h2 : ¬ i < (bl s).length := by rw [bl_size]; exact h
    rw [List.getElem?_eq_none (by omega)]
    simp [ByteArray.get!]
    rw [getElem!_neg s.data i h]
    rfl
theorem bl_app (a b : ByteArray) : bl (a ++ b) = bl a ++ bl b := by simp [bl]
theorem size_app (a b : ByteArray) : (a ++ b).size = a.size + b.size := by rw [← bl_size, bl_app, List.length_append, bl_size, bl_size]
theorem get_left {a b : ByteArray} {i : Nat} (h : i < a.size) : (a ++ b).get! i = a.get! i := by
  rw [get_at, get_at, bl_app, List.getElem?_append_left (by rw [bl_size]; exact h)]
theorem get_right (a b : ByteArray) (i : Nat) : (a ++ b).get! (a.size + i) = b.get! i := by
  rw [get_at, get_at, bl_app, List.getElem?_append_right (by rw [bl_size]; omega), bl_size, Nat.add_sub_cancel_left]

/-- The model's decode, by at most four bytes (a place behind the text's end: none). -/
def cont (o : Option Nat) : Bool := match o with | some x => x / 64 == 2 | none => false
def dec4 (b0 : Nat) (o1 o2 o3 : Option Nat) : Nat × Nat :=
  if b0 < 128 then (b0, 1)
  else if (b0 / 32 == 6 && cont o1) = true then
    (if b0 % 32 * 64 + o1.getD 0 % 64 ≥ 128 then (b0 % 32 * 64 + o1.getD 0 % 64, 2) else (65533, 1))
  else if (b0 / 16 == 14 && cont o1 && cont o2) = true then
    (if (decide (b0 % 16 * 4096 + o1.getD 0 % 64 * 64 + o2.getD 0 % 64 ≥ 2048) && Utf8.valid ((b0 % 16 * 4096 + o1.getD 0 % 64 * 64 + o2.getD 0 % 64 : Nat) : Int)) = true then (b0 % 16 * 4096 + o1.getD 0 % 64 * 64 + o2.getD 0 % 64, 3) else (65533, 1))
  else if (b0 / 8 == 30 && cont o1 && cont o2 && cont o3) = true then
    (if (decide (b0 % 8 * 262144 + o1.getD 0 % 64 * 4096 + o2.getD 0 % 64 * 64 + o3.getD 0 % 64 ≥ 65536) && Utf8.valid ((b0 % 8 * 262144 + o1.getD 0 % 64 * 4096 + o2.getD 0 % 64 * 64 + o3.getD 0 % 64 : Nat) : Int)) = true then (b0 % 8 * 262144 + o1.getD 0 % 64 * 4096 + o2.getD 0 % 64 * 64 + o3.getD 0 % 64, 4) else (65533, 1))
  else (65533, 1)

def opt (s : ByteArray) (j : Nat) : Option Nat := (bl s)[j]?.map UInt8.toNat
theorem opt_in {s : ByteArray} {j : Nat} (h : j < s.size) : opt s j = some (s.get! j).toNat := by
  unfold opt; rw [get_at, List.getElem?_eq_getElem (by rw [bl_size]; exact h)]; rfl
theorem opt_out {s : ByteArray} {j : Nat} (h : ¬ j < s.size) : opt s j = none := by
  unfold opt; rw [List.getElem?_eq_none (by rw [bl_size]; omega)]; rfl
theorem cont_eq (s : ByteArray) (j : Nat) : cont (opt s j) = (decide (j < s.size) && (s.get! j).toNat / 64 == 2) := by
  by_cases h : j < s.size
  · rw [opt_in h]; simp [cont, h]
  · rw [opt_out h]; simp [cont, h]
theorem get_eq (s : ByteArray) (j : Nat) : (opt s j).getD 0 = (s.get! j).toNat := by
  unfold opt; rw [get_at]; cases (bl s)[j]? <;> rfl
theorem decode_eq (s : ByteArray) (i : Nat) : Utf8.decode s i = dec4 (s.get! i).toNat (opt s (i + 1)) (opt s (i + 2)) (opt s (i + 3)) := by
  unfold Utf8.decode dec4
  simp only [cont_eq, get_eq, Utf8.runeError, Nat.add_zero]

theorem cont_none : cont none = false := rfl
theorem dec4_more {b0 : Nat} {o1 o2 o3 p1 p2 p3 : Option Nat} (h1 : o1 = none ∨ p1 = o1) (h2 : o2 = none ∨ p2 = o2) (h3 : o3 = none ∨ p3 = o3) (hg : (dec4 b0 o1 o2 o3).1 ≠ 65533) : dec4 b0 p1 p2 p3 = dec4 b0 o1 o2 o3 := by
  rcases h1 with rfl | rfl
  · unfold dec4 at *
    by_cases c : b0 < 128
    · simp [c]
    · simp [c, cont_none] at hg
  · rcases h2 with rfl | rfl
    · unfold dec4 at *
      by_cases c : b0 < 128
      · simp [c]
      · by_cases d : (b0 / 32 == 6 && cont p1) = true
        · simp [c, d]
        · simp [c, d, cont_none] at hg
    · rcases h3 with rfl | rfl
      · unfold dec4 at *
        by_cases c : b0 < 128
        · simp [c]
        · by_cases d : (b0 / 32 == 6 && cont p1) = true
          · simp [c, d]
          · by_cases e : (b0 / 16 == 14 && cont p1 && cont p2) = true
            · simp [c, d, e]
            · simp [c, d, e, cont_none] at hg
      · rfl

theorem opt_left (a b : ByteArray) (j : Nat) : opt a j = none ∨ opt (a ++ b) j = opt a j := by
  by_cases h : j < a.size
  · right; rw [opt_in h, opt_in (by rw [size_app]; omega), get_left h]
  · left; exact opt_out h
theorem opt_right (a b : ByteArray) (j : Nat) : opt (a ++ b) (a.size + j) = opt b j := by
  unfold opt
  rw [bl_app, List.getElem?_append_right (by rw [bl_size]; omega), bl_size, Nat.add_sub_cancel_left]
theorem decode_left {a b : ByteArray} {i : Nat} (h : i < a.size) (hg : (Utf8.decode a i).1 ≠ 65533) : Utf8.decode (a ++ b) i = Utf8.decode a i := by
  rw [decode_eq, decode_eq, get_left h]
  rw [decode_eq] at hg
  exact dec4_more (opt_left _ _ _) (opt_left _ _ _) (opt_left _ _ _) hg
theorem decode_right (a b : ByteArray) (i : Nat) : Utf8.decode (a ++ b) (a.size + i) = Utf8.decode b i := by
  rw [decode_eq, decode_eq, get_right]
  rw [show a.size + i + 1 = a.size + (i + 1) by omega, show a.size + i + 2 = a.size + (i + 2) by omega, show a.size + i + 3 = a.size + (i + 3) by omega, opt_right, opt_right, opt_right]

theorem runes_right (a b : ByteArray) (i : Nat) : runesFrom (a ++ b) (a.size + i) = runesFrom b i := by
  by_cases h : i < b.size
  · have hw := Lib.decode_width_pos b i h
    rw [runesFrom_step h, runesFrom_step (s := a ++ b) (by rw [size_app]; omega), decode_right, Nat.add_assoc, runes_right a b (i + (Utf8.decode b i).2)]
  · rw [runesFrom_end h, runesFrom_end (by rw [size_app]; omega)]
termination_by b.size - i
theorem runes_left (a b : ByteArray) (i : Nat) (hi : i ≤ a.size) (hg : ∀ r ∈ runesFrom a i, r ≠ 65533) : runesFrom (a ++ b) i = runesFrom a i ++ runes b := by
  by_cases h : i < a.size
  · have hw := Lib.decode_width_pos a i h
    have hin := decode_in a i h
    rw [runesFrom_step h] at hg ⊢
    have hd : (Utf8.decode a i).1 ≠ 65533 := by have := hg ((Utf8.decode a i).1 : Int) (by simp); omega
    rw [runesFrom_step (s := a ++ b) (by rw [size_app]; omega), decode_left h hd, runes_left a b _ hin (fun r hr => hg r (by simp [hr]))]
    rfl
  · rw [runesFrom_end h]
    have : i = a.size + 0 := by omega
    rw [this, runes_right]
    rfl
termination_by a.size - i
theorem runes_app (a b : ByteArray) (hg : ∀ r ∈ runes a, r ≠ 65533) : runes (a ++ b) = runes a ++ runes b := runes_left a b 0 (Nat.zero_le _) hg

/-- A text of ASCII: its characters are its bytes. -/
theorem runes_ascii (s : ByteArray) (h : ∀ b ∈ bl s, b.toNat < 128) (i : Nat) : runesFrom s i = ((bl s).drop i).map fun b => (b.toNat : Int) := by
  by_cases hi : i < s.size
  · have hl : i < (bl s).length := by rw [bl_size]; exact hi
    have hb : (s.get! i).toNat < 128 := by rw [get_at, List.getElem?_eq_getElem hl]; exact h _ (List.getElem_mem _)
    have hd : Utf8.decode s i = ((s.get! i).toNat, 1) := by rw [decode_eq, dec4, if_pos hb]
    rw [runesFrom_step hi, hd, drop_cons hl, List.map_cons, runes_ascii s h (i + 1), get_at, List.getElem?_eq_getElem hl]
    rfl
  · rw [runesFrom_end hi, List.drop_of_length_le (by rw [bl_size]; omega)]
    rfl
termination_by s.size - i
theorem runes_mk (l : List UInt8) (h : ∀ b ∈ l, b.toNat < 128) : runes ⟨l.toArray⟩ = l.map fun b => (b.toNat : Int) := by
  rw [runes, runes_ascii _ h 0]; rfl

/-- A byte below 128 is a character. -/
theorem byte_rune (s : ByteArray) (i p : Nat) (hip : i ≤ p) (hp : p < s.size) (hb : (s.get! p).toNat < 128) : ((s.get! p).toNat : Int) ∈ runesFrom s i := by
  have hi : i < s.size := by omega
  have hw := Lib.decode_width_pos s i hi
  rw [runesFrom_step hi]
  by_cases h : i + (Utf8.decode s i).2 ≤ p
  · exact List.mem_cons_of_mem _ (byte_rune s _ p h hp hb)
  · have hd := decode_eq s i
    have hbyte : ∀ k, i + k = p → cont (opt s (i + k)) = false := by
      intro k hk
      rw [hk, opt_in hp]
      simp only [cont, beq_eq_false_iff_ne]
      omega
    by_cases c : (s.get! i).toNat < 128
    · have hd1 : Utf8.decode s i = ((s.get! i).toNat, 1) := by rw [hd, dec4, if_pos c]
      rw [hd1] at h ⊢
      have : p = i := by omega
      rw [this]
      simp
    · have hne : p ≠ i := by intro e; rw [e] at hb; exact c hb
      exfalso
      have h1 := hbyte 1; have h2 := hbyte 2; have h3 := hbyte 3
      generalize opt s (i + 1) = o1 at *
      generalize opt s (i + 2) = o2 at *
      generalize opt s (i + 3) = o3 at *
      rw [hd] at h
      unfold dec4 at h
      rw [if_neg c] at h
      split at h
      · rename_i d
        simp only [Bool.and_eq_true] at d
        split at h
        · have := h1 (by simp at h; omega); rw [d.2] at this; cases this
        · simp at h; omega
      · split at h
        · rename_i d
          simp only [Bool.and_eq_true] at d
          split at h
          · simp at h
            have : p = i + 1 ∨ p = i + 2 := by omega
            rcases this with e | e
            · have := h1 e.symm; rw [d.1.2] at this; cases this
            · have := h2 e.symm; rw [d.2] at this; cases this
          · simp at h; omega
        · split at h
          · rename_i d
            simp only [Bool.and_eq_true] at d
            split at h
            · simp at h
              have : p = i + 1 ∨ p = i + 2 ∨ p = i + 3 := by omega
              rcases this with e | e | e
              · have := h1 e.symm; rw [d.1.1.2] at this; cases this
              · have := h2 e.symm; rw [d.1.2] at this; cases this
              · have := h3 e.symm; rw [d.2] at this; cases this
            · simp at h; omega
          · simp at h; omega
termination_by s.size - i
theorem byte_in_runes {s : ByteArray} {b : UInt8} (h : b ∈ bl s) (hb : b.toNat < 128) : (b.toNat : Int) ∈ runes s := by
  obtain ⟨p, hp, rfl⟩ := List.mem_iff_getElem.1 h
  have hp2 : p < s.size := by rw [← bl_size]; exact hp
  have e : s.get! p = (bl s)[p] := by rw [get_at, List.getElem?_eq_getElem hp]; rfl
  have := byte_rune s 0 p (Nat.zero_le _) hp2 (by rw [e]; exact hb)
  rw [e] at this
  exact this
end Go.Proofs.YtlclmpiocbkabaaDoor
