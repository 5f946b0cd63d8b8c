/- Plain laws: a text of ASCII in the lower case, and its title, as they are read. -/
import Derived.Test.YtlclmpiocbkabaaDoorTitleMap
import Derived.Test.YtlclmpiocbkabaaDoorRead
import Derived.Test.YtlclmpiocbkabaaDoorUtf
namespace Go.Proofs.YtlclmpiocbkabaaDoor
open Go.RowKit
set_option linter.unusedVariables false
set_option linter.unusedSimpArgs false

/-! ### a text that reads as ASCII is ASCII -/
theorem seq_low : ∀ (l : List Int) (m d : Int) (on rest on' : List Int), readSeq l m d on = some (rest, on') → ∀ r ∈ l, r ∈ rest ∨ r < 128
  | [], _, _, _, _, _, h => by simp [readSeq] at h
  | x :: l, m, d, on, rest, on', h => by
    rw [readSeq] at h
    intro r hr
    split at h
    · next hd =>
      simp at hd
      rcases List.mem_cons.1 hr with rfl | hr
      · exact Or.inr (by omega)
      · exact seq_low l _ _ _ _ _ h r hr
    · split at h
      · next hd =>
        simp at hd
        split at h
        · simp at h
          rcases List.mem_cons.1 hr with rfl | hr
          · exact Or.inr (by omega)
          · exact Or.inl (by rw [← h.1]; exact hr)
        · rcases List.mem_cons.1 hr with rfl | hr
          · exact Or.inr (by omega)
          · exact seq_low l _ _ _ _ _ h r hr
      · cases h
theorem read_low : ∀ (n : Nat) (rs on : List Int) (cells c' : List (Int × List Int)) (on' : List Int), rs.length ≤ n → readAll rs on cells = some (c', on') → (∀ r ∈ rs, r < 128 ∨ ∃ x ∈ c', x.1 = r) ∧ ∀ x ∈ cells, x ∈ c'
  | _, [], on, cells, c', on', _, h => by
    rw [readAll_nil] at h
    injection h with h
    injection h with h1 h2
    subst h1
    exact ⟨fun r hr => by simp at hr, fun x hx => hx⟩
  | 0, r :: l, _, _, _, _, hn, _ => by simp at hn
  | n + 1, r :: l, on, cells, c', on', hn, h => by
    have hl : l.length ≤ n := by simpa using hn
    by_cases h27 : r = 27
    · subst h27
      cases l with
      | nil => rw [readAll_one] at h; cases h
      | cons q l' =>
        by_cases h91 : q = 91
        · subst h91
          cases hs : readSeq l' 0 0 on with
          | none => rw [readAll_none hs] at h; cases h
          | some x =>
            obtain ⟨rest, on2⟩ := x
            rw [readAll_some hs] at h
            have hle := readSeq_le _ _ _ _ _ _ hs
            simp at hl
            have ih := read_low n rest on2 cells c' on' (by omega) h
            refine ⟨fun r hr => ?_, ih.2⟩
            rcases List.mem_cons.1 hr with rfl | hr
            · exact Or.inl (by omega)
            · rcases List.mem_cons.1 hr with rfl | hr
              · exact Or.inl (by omega)
              · rcases seq_low _ _ _ _ _ _ hs r hr with h1 | h1
                · exact ih.1 r h1
                · exact Or.inl h1
        · rw [readAll_bad h91] at h; cases h
    · rw [readAll_char h27] at h
      have ih := read_low n l on _ c' on' hl h
      refine ⟨fun x hx => ?_, fun x hx => ih.2 x (by simp [hx])⟩
      rcases List.mem_cons.1 hx with rfl | hx
      · exact Or.inr ⟨_, ih.2 (x, on) (by simp), rfl⟩
      · exact ih.1 x hx
theorem read_count : ∀ (n : Nat) (rs on : List Int) (cells c' : List (Int × List Int)) (on' : List Int), rs.length ≤ n → readAll rs on cells = some (c', on') → c'.length ≤ cells.length + rs.length
  | _, [], on, cells, c', on', _, h => by
    rw [readAll_nil] at h
    injection h with h
    injection h with h1 h2
    subst h1
    simp
  | 0, r :: l, _, _, _, _, hn, _ => by simp at hn
  | n + 1, r :: l, on, cells, c', on', hn, h => by
    have hl : l.length ≤ n := by simpa using hn
    rw [List.length_cons]
    by_cases h27 : r = 27
    · subst h27
      cases l with
      | nil => rw [readAll_one] at h; cases h
      | cons q l' =>
        by_cases h91 : q = 91
        · subst h91
          cases hs : readSeq l' 0 0 on with
          | none => rw [readAll_none hs] at h; cases h
          | some x =>
            obtain ⟨rest, on2⟩ := x
            rw [readAll_some hs] at h
            have hle := readSeq_le _ _ _ _ _ _ hs
            simp at hl
            have ih := read_count n rest on2 cells c' on' (by omega) h
            rw [List.length_cons]
            omega
        · rw [readAll_bad h91] at h; cases h
    · rw [readAll_char h27] at h
      have ih := read_count n l on _ c' on' hl h
      rw [List.length_append] at ih
      simp at ih
      omega
theorem dec4_low {b0 : Nat} {o1 o2 o3 : Option Nat} (hb : b0 < 256) (h : (dec4 b0 o1 o2 o3).1 < 128) : b0 < 128 ∧ (dec4 b0 o1 o2 o3).2 = 1 := by
  by_cases c : b0 < 128
  · unfold dec4
    rw [if_pos c]
    exact ⟨c, rfl⟩
  · exfalso
    unfold dec4 at h
    rw [if_neg c] at h
    split at h
    · split at h
      · next hge => simp only at h; omega
      · simp at h
    · split at h
      · split at h
        · next hge =>
          rw [Bool.and_eq_true] at hge
          have := of_decide_eq_true hge.1
          simp only at h
          omega
        · simp at h
      · split at h
        · split at h
          · next hge =>
            rw [Bool.and_eq_true] at hge
            have := of_decide_eq_true hge.1
            simp only at h
            omega
          · simp at h
        · simp at h
theorem low_bytes (s : ByteArray) (i : Nat) (h : ∀ r ∈ runesFrom s i, r < 128) : ∀ j, i ≤ j → j < s.size → (s.get! j).toNat < 128 := by
  intro j hij hj
  have hi : i < s.size := by omega
  rw [runesFrom_step hi] at h
  have h1 := h ((Utf8.decode s i).1 : Int) (by simp)
  have h2 := dec4_low (b0 := (s.get! i).toNat) (o1 := opt s (i + 1)) (o2 := opt s (i + 2)) (o3 := opt s (i + 3)) (by have := (s.get! i).toNat_lt; omega) (by rw [← decode_eq]; omega)
  rw [← decode_eq] at h2
  rcases Nat.lt_or_ge i j with hlt | hge
  · have h3 : ∀ r ∈ runesFrom s (i + 1), r < 128 := fun r hr => h r (by rw [h2.2]; simp [hr])
    exact low_bytes s (i + 1) h3 j (by omega) hj
  · rw [show j = i by omega]; exact h2.1
termination_by s.size - i
decreasing_by omega
theorem low_all {s : ByteArray} (h : ∀ r ∈ runes s, r < 128) : ∀ b ∈ bl s, b.toNat < 128 := by
  intro b hb
  obtain ⟨j, hj, rfl⟩ := List.getElem_of_mem hb
  have hj2 : j < s.size := by rw [← bl_size]; exact hj
  have := low_bytes s 0 h j (Nat.zero_le _) hj2
  rw [get_at, List.getElem?_eq_getElem hj] at this
  exact this

/-! ### in the lower case -/
def lowC (x : Int × List Int) : Int × List Int := (Lib.toLowerR x.1, x.2)
theorem lowR_same {r : Int} (h : r < 65 ∨ 90 < r) : Lib.toLowerR r = r := by unfold Lib.toLowerR; rw [if_neg (by omega)]
theorem seq_lower : ∀ (l : List Int) (m d : Int) (on rest on' : List Int), readSeq l m d on = some (rest, on') → readSeq (l.map Lib.toLowerR) m d on = some (rest.map Lib.toLowerR, on')
  | [], _, _, _, _, _, h => by simp [readSeq] at h
  | x :: l, m, d, on, rest, on', h => by
    rw [readSeq] at h
    rw [List.map_cons]
    split at h
    · next hd =>
      have hd' := hd
      simp at hd'
      rw [lowR_same (by omega), readSeq, if_pos hd]
      exact seq_lower l _ _ _ _ _ h
    · split at h
      · next hn hd =>
        have hd' := hd
        simp at hd'
        rw [lowR_same (by omega), readSeq, if_neg hn, if_pos hd]
        split at h
        · next h109 =>
          rw [if_pos h109]
          simp at h
          rw [h.1, h.2]
        · next h109 =>
          rw [if_neg h109]
          exact seq_lower l _ _ _ _ _ h
      · cases h
theorem read_lower : ∀ (n : Nat) (rs on : List Int) (cells c' : List (Int × List Int)) (on' : List Int), rs.length ≤ n → readAll rs on cells = some (c', on') → readAll (rs.map Lib.toLowerR) on (cells.map lowC) = some (c'.map lowC, on')
  | _, [], on, cells, c', on', _, h => by
    rw [readAll_nil] at h
    injection h with h
    injection h with h1 h2
    subst h1 h2
    rw [List.map_nil, readAll_nil]
  | 0, r :: l, _, _, _, _, hn, _ => by simp at hn
  | n + 1, r :: l, on, cells, c', on', hn, h => by
    have hl : l.length ≤ n := by simpa using hn
    rw [List.map_cons]
    by_cases h27 : r = 27
    · subst h27
      rw [show Lib.toLowerR 27 = 27 from rfl]
      cases l with
      | nil => rw [readAll_one] at h; cases h
      | cons q l' =>
        by_cases h91 : q = 91
        · subst h91
          rw [List.map_cons, show Lib.toLowerR 91 = 91 from rfl]
          cases hs : readSeq l' 0 0 on with
          | none => rw [readAll_none hs] at h; cases h
          | some x =>
            obtain ⟨rest, on2⟩ := x
            rw [readAll_some hs] at h
            rw [readAll_some (seq_lower _ _ _ _ _ _ hs)]
            have hle := readSeq_le _ _ _ _ _ _ hs
            simp at hl
            exact read_lower n rest on2 cells c' on' (by omega) h
        · rw [readAll_bad h91] at h; cases h
    · rw [readAll_char h27] at h
      have hne : Lib.toLowerR r ≠ 27 := by
        unfold Lib.toLowerR
        split <;> omega
      rw [readAll_char hne]
      have ih := read_lower n l on _ c' on' hl h
      rw [List.map_append] at ih
      exact ih
theorem lowerB_val {b : UInt8} (h : b.toNat < 128) : ((Lib.lowerB b).toNat : Int) = Lib.toLowerR b.toNat := by
  have key : ∀ i : Fin 128, ((Lib.lowerB (UInt8.ofNat i.val)).toNat : Int) = Lib.toLowerR ((UInt8.ofNat i.val).toNat : Nat) := by decide
  have := key ⟨b.toNat, h⟩
  simpa using this
theorem lowerB_lt {b : UInt8} (h : b.toNat < 128) : (Lib.lowerB b).toNat < 128 := by
  have h1 := lowerB_val h
  unfold Lib.toLowerR at h1
  split at h1 <;> omega
theorem lowered_ascii {s : ByteArray} (h : ∀ b ∈ bl s, b.toNat < 128) : ∀ b ∈ bl (loweredB s), b.toNat < 128 := by
  intro b hb
  unfold loweredB at hb
  rw [bl_mk] at hb
  unfold Lib.toLowerA at hb
  rw [List.mem_map] at hb
  obtain ⟨c, hc, rfl⟩ := hb
  exact lowerB_lt (h c hc)
theorem runes_lowered {s : ByteArray} (h : ∀ b ∈ bl s, b.toNat < 128) : runes (loweredB s) = (runes s).map Lib.toLowerR := by
  have e1 := runes_ascii s h 0
  have e2 := runes_ascii (loweredB s) (lowered_ascii h) 0
  rw [List.drop_zero] at e1 e2
  show runesFrom (loweredB s) 0 = (runesFrom s 0).map Lib.toLowerR
  rw [e1, e2]
  unfold loweredB
  rw [bl_mk]
  unfold Lib.toLowerA
  rw [List.map_map, List.map_map]
  apply List.map_congr_left
  intro b hb
  exact lowerB_val (h b hb)
theorem readText_lowered {s : ByteArray} {cells : List (Int × List Int)} {on : List Int} (h : ∀ b ∈ bl s, b.toNat < 128) (hr : readText s = some (cells, on)) : readText (loweredB s) = some (cells.map lowC, on) := by
  unfold readText at hr ⊢
  rw [runes_lowered h]
  exact read_lower _ _ _ _ _ _ (Nat.le_refl _) hr
theorem title_len : ∀ (l : List UInt8) (e : Bool) (p : UInt8), (titleT e p l).length = l.length
  | [], _, _ => rfl
  | b :: l, e, p => by rw [titleT, List.length_cons, List.length_cons, title_len l]
theorem title_ascii : ∀ (l : List UInt8) (e : Bool) (p : UInt8), (∀ b ∈ l, b.toNat < 128) → ∀ b ∈ titleT e p l, b.toNat < 128
  | [], _, _, _, b, hb => by simp [titleT] at hb
  | x :: l, e, p, h, b, hb => by
    rw [titleT] at hb
    rcases List.mem_cons.1 hb with rfl | hb
    · exact outB_lt (h x (by simp))
    · exact title_ascii l _ _ (fun y hy => h y (by simp [hy])) b hb
theorem up_low {b : UInt8} (h : b.toNat < 128) : Lib.lowerB (upB (Lib.lowerB b)) = Lib.lowerB b ∧ Lib.lowerB (Lib.lowerB b) = Lib.lowerB b := by
  have key : ∀ i : Fin 128, Lib.lowerB (upB (Lib.lowerB (UInt8.ofNat i.val))) = Lib.lowerB (UInt8.ofNat i.val) ∧ Lib.lowerB (Lib.lowerB (UInt8.ofNat i.val)) = Lib.lowerB (UInt8.ofNat i.val) := by decide
  have := key ⟨b.toNat, h⟩
  simpa using this
theorem title_low : ∀ (l : List UInt8) (e : Bool) (p : UInt8), (∀ b ∈ l, b.toNat < 128) → (titleT e p (l.map Lib.lowerB)).map Lib.lowerB = l.map Lib.lowerB
  | [], _, _, _ => rfl
  | x :: l, e, p, h => by
    rw [List.map_cons, titleT, List.map_cons, title_low l _ _ fun y hy => h y (by simp [hy])]
    congr 1
    have hx := up_low (h x (by simp))
    unfold outB
    repeat' split
    · exact hx.2
    · exact hx.1
    · exact hx.2
/-- The lower case of the title of the lower case. -/
theorem lower_title_lower {s : ByteArray} (h : ∀ b ∈ bl s, b.toNat < 128) : loweredB (titledB (loweredB s)) = loweredB s := by
  apply bl_ext
  unfold loweredB titledB titled
  rw [bl_mk, bl_mk, bl_mk]
  exact title_low _ _ _ h
end Go.Proofs.YtlclmpiocbkabaaDoor
