/- Walk of text.StripEscape: what it makes of a text; and that what is printed in a color is stripped to the text. Condition: sizes below the bound that is named. -/
import Derived.Test.YtdkpacgbniclhaaGreatDoorBuild
import Derived.Test.YtdkpacgbniclhaaGreatDoorPaintPlain
import Derived.Lib.MapLaws
namespace Go.Proofs.YtdkpacgbniclhaaGreatDoor
open Go.RowKit

/-- What StripEscape makes of some characters: those between an escape and its 'm' fall. -/
def stripL : List Int → Bool → List UInt8
  | [], _ => []
  | r :: rs, esc => (if (esc || r == 27) = true then [] else Lib.encodeRune r) ++ stripL rs (if (esc || r == 27) = true then !(r == 109) else false)
theorem stripL_cons (r : Int) (rs : List Int) (esc : Bool) : stripL (r :: rs) esc = (if (esc || r == 27) = true then [] else Lib.encodeRune r) ++ stripL rs (if (esc || r == 27) = true then !(r == 109) else false) := rfl
theorem stripL_in {r : Int} {rs : List Int} {esc : Bool} (h : (esc || r == 27) = true) : stripL (r :: rs) esc = stripL rs (!(r == 109)) := by rw [stripL_cons, if_pos h, if_pos h]; rfl
theorem stripL_out {r : Int} {rs : List Int} {esc : Bool} (h : (esc || r == 27) = false) : stripL (r :: rs) esc = Lib.encodeRune r ++ stripL rs false := by
  rw [stripL_cons, if_neg (by rw [h]; simp), if_neg (by rw [h]; simp)]
theorem enc_len (r : Int) : (Lib.encodeRune r).length ≤ 4 := by
  rw [← Lib.runeCells_length]; exact (Lib.runeCells_le r).2

/-- One step of a range over a text, while a builder stands. -/
theorem iter_nextB {P : Program} {wr w : World} {K B BB b : Nat} {s : ByteArray} {pos : Nat} {l : List UInt8} (hit : wr.heap[K]? = some (.stringIter s pos)) (hp : pos < s.size) (hbw : Below B w wr) (hB : B ≤ K) (hbl : Bld wr BB b l) :
    ∃ (r : Int) (pos2 : Nat) (wr2 : World), runesFrom s pos = r :: runesFrom s pos2 ∧ 0 ≤ r ∧ r ≤ 1114111 ∧ pos < pos2 ∧ pos2 ≤ s.size ∧ wr2.heap[K]? = some (.stringIter s pos2) ∧ Below B w wr2 ∧ wr2.heap.size = wr.heap.size ∧ Bld wr2 BB b l ∧
      ∀ ty, (Instr.next (.pointer (some ⟨K, 0, none⟩)) true ty).run P wr = .ok (.tuple #[.bool true, .int .i64 pos, .int .i32 r]) wr2 :=
  ⟨_, _, _, runesFrom_step hp, by omega, by have := decode_le_max s pos; omega, by have := Lib.decode_width_pos s pos hp; omega, decode_in s pos hp, Lib.iterAt_heap wr K s pos _ hit, Lib.below_iterAt hbw hB s _, Lib.iterAt_size .., hbl.iterAt hit _, fun ty => Lib.run_next_any_at wr K s pos ty hit hp⟩

set_option maxHeartbeats 2000000 in
theorem strip_any (s : ByteArray) (w : World) (hs : s.size ≤ 1099511627776) :
    Calls Tryz.prog 45 #[.string s] w fun e w' => e = .returned (.string ⟨(stripL (runes s) false).toArray⟩) ∧ Below w.heap.size w w' := by
  go_enter Tryz.func45, Tryz.ntmps45
  go_wp2
  go_loopw [4] (fun v4 wr => ∃ (pos : Nat) (esc : Bool) (acc : List UInt8), v4 = .bool esc ∧ wr.heap[w.heap.size + 1]? = some (.stringIter s pos) ∧ Bld wr w.heap.size w.heap.size acc ∧ Below w.heap.size w wr ∧ stripL (runes s) false = acc ++ stripL (runesFrom s pos) esc ∧ acc.length ≤ 4 * pos ∧ pos ≤ s.size) (fun _ wr => s.size - wr.iterPos (w.heap.size + 1))
  case atStart =>
    have hb0 : Below w.heap.size w (w.alloc (.cells #[.pointer none, .slice none 0 0] 106)) := (Below.refl _ w).alloc (Nat.le_refl _) _
    have hs1 : (w.alloc (.cells #[.pointer none, .slice none 0 0] 106)).heap.size = w.heap.size + 1 := by simp
    refine ⟨0, false, [], rfl, ?_, ?_, ?_, rfl, Nat.zero_le _, Nat.zero_le _⟩
    · have := World.iter_heap (w.alloc (.cells #[.pointer none, .slice none 0 0] 106)) s 0
      rw [hs1] at this
      exact this
    · refine (Bld.fresh w).below ?_
      exact (Below.refl _ _).alloc (Nat.le_refl _) _
    · exact hb0.alloc (by rw [hs1]; omega) _
  case round =>
    obtain ⟨pos, esc, acc, rfl, hit, hbl, hbw, hacc, hal, hps⟩ := hrel
    have HA := Lib.hid hacc
    clear hacc
    have hszr : w.heap.size + 1 < wr.heap.size := (Array.getElem?_eq_some_iff.1 hit).1
    by_cases hp : pos < s.size
    · obtain ⟨r, pos2, wr2, hr, h0, h1, hlt, hle, hit2, hbw2, hsz, hbl2, hnx⟩ := iter_nextB (P := Tryz.prog) hit hp hbw (Nat.le_succ _) hbl
      have HR := Lib.hid hr
      have HM := Lib.hid (show ∀ w1 : World, w1.heap[w.heap.size + 1]? = some (.stringIter s pos2) → s.size - w1.iterPos (w.heap.size + 1) < s.size - wr.iterPos (w.heap.size + 1) by
        intro w1 h; have e1 := iterPos_of hit; have e2 := iterPos_of h; omega)
      have HS := Lib.hid hsz
      clear hr hbw hsz hbl
      by_cases h27 : (r == 27) = true
      · have h109 : (r == 109) = false := by simp at h27; subst h27; decide
        have HN := Lib.hid (show stripL (runesFrom s pos) esc = stripL (runesFrom s pos2) true by rw [HR.out, stripL_in (by rw [h27]; simp), h109]; rfl)
        clear hit
        go_wp2
        go_roundw
        case rel => exact ⟨pos2, true, acc, rfl, hit2, hbl2, hbw2, by rw [HA.out, HN.out], by omega, by omega⟩
        case measure => exact HM.out _ hit2
      · have h27' : (r == 27) = false := by simpa using h27
        clear h27
        cases esc with
        | true =>
          cases h109 : (r == 109) with
          | true =>
            have HN := Lib.hid (show stripL (runesFrom s pos) true = stripL (runesFrom s pos2) false by rw [HR.out, stripL_in rfl, h109]; rfl)
            clear hit
            go_wp2
            go_roundw
            case rel => exact ⟨pos2, false, acc, rfl, hit2, hbl2, hbw2, by rw [HA.out, HN.out], by omega, by omega⟩
            case measure => exact HM.out _ hit2
          | false =>
            have HN := Lib.hid (show stripL (runesFrom s pos) true = stripL (runesFrom s pos2) true by rw [HR.out, stripL_in rfl, h109]; rfl)
            clear hit
            go_wp2
            go_roundw
            case rel => exact ⟨pos2, true, acc, rfl, hit2, hbl2, hbw2, by rw [HA.out, HN.out], by omega, by omega⟩
            case measure => exact HM.out _ hit2
        | false =>
          have HN := Lib.hid (show stripL (runesFrom s pos) false = Lib.encodeRune r ++ stripL (runesFrom s pos2) false by rw [HR.out, stripL_out (by rw [h27']; rfl)])
          have hel := enc_len r
          clear hit
          go_wp2_with fail
          refine (bld_rune w.heap.size w.heap.size acc r (by omega) (by omega) _ hbl2 (by omega) (by rw [HS.out]; omega)).mono ?_
          rintro e w3 ⟨rfl, hbl3, hb3, hok⟩
          have hit3 := hok _ _ hit2 (by simp) (by intro c fz h; cases h)
          have hbw3 := hbw2.trans hb3
          clear hb3 hok hbl2 hbw2 hit2
          go_wp2
          go_roundw
          case rel => exact ⟨pos2, false, acc ++ Lib.encodeRune r, rfl, hit3, hbl3, hbw3, by rw [HA.out, HN.out, List.append_assoc], by rw [List.length_append]; omega, by omega⟩
          case measure => exact HM.out _ hit3
    · have hnx : ∀ ty, (Instr.next (.pointer (some ⟨w.heap.size + 1, 0, none⟩)) true ty).run Tryz.prog wr = _ := fun ty => Lib.run_next_end_at wr (w.heap.size + 1) s pos ty hit hp
      have HE := Lib.hid (show stripL (runes s) false = acc by rw [HA.out, runesFrom_end hp]; simp [stripL])
      go_wp2_with fail
      refine (bld_string w.heap.size w.heap.size acc _ hbl (by omega)).mono ?_
      rintro e w3 ⟨rfl, hbl3, hb3, hok⟩
      have hbw3 := hbw.trans hb3
      clear hb3 hok hbl hbw
      go_wp2
      go_ret
      exact ⟨ret_str (by rw [HE.out]), hbw3⟩

theorem decode_drop (s : ByteArray) (i : Nat) (hi : i ≤ s.size) : Utf8.decode s i = Lib.decodeL ((bl s).drop i) := by
  have e : s = (⟨((bl s).take i).toArray⟩ : ByteArray) ++ ⟨((bl s).drop i).toArray⟩ := by
    apply bl_ext; rw [bl_app, bl_mk, bl_mk, List.take_append_drop]
  have hz : (⟨((bl s).take i).toArray⟩ : ByteArray).size = i := by rw [mk_size, List.length_take, bl_size]; omega
  have := decode_right ⟨((bl s).take i).toArray⟩ ⟨((bl s).drop i).toArray⟩ 0
  rw [← e, hz] at this
  exact this

theorem enc_runes (s : ByteArray) (i : Nat) (hi : i ≤ s.size) (h : ∀ r ∈ runesFrom s i, r ≠ 65533) : (runesFrom s i).flatMap Lib.encodeRune = (bl s).drop i := by
  by_cases hp : i < s.size
  · have hw := Lib.decode_width_pos s i hp
    have hin := decode_in s i hp
    rw [runesFrom_step hp] at h ⊢
    have hd : (Utf8.decode s i).1 ≠ 65533 := by have := h ((Utf8.decode s i).1 : Int) (by simp); omega
    have hne : (bl s).drop i ≠ [] := by
      intro e
      have := congrArg List.length e
      rw [List.length_drop, bl_size] at this
      simp at this; omega
    have he := Lib.encode_decode ((bl s).drop i) hne (by rw [← decode_drop s i hi]; intro h; exact hd h.1)
    rw [← decode_drop s i hi] at he
    rw [List.flatMap_cons, he, enc_runes s _ hin (fun r hr => h r (by simp [hr])), ← List.drop_drop, List.take_append_drop]
  · rw [runesFrom_end hp, List.drop_of_length_le (by rw [bl_size]; omega)]
    rfl
termination_by s.size - i

theorem stripL_plain (rest : List Int) : ∀ rs : List Int, (∀ r ∈ rs, r ≠ 27) → stripL (rs ++ rest) false = rs.flatMap Lib.encodeRune ++ stripL rest false
  | [], _ => rfl
  | r :: rs, h => by
    have h27 : (r == 27) = false := by rw [beq_eq_false_iff_ne]; exact h r (by simp)
    rw [List.cons_append, stripL_out (by rw [h27]; rfl), stripL_plain rest rs (fun x hx => h x (by simp [hx])), List.flatMap_cons, List.append_assoc]
theorem stripL_skip (rest : List Int) : ∀ rs : List Int, (∀ r ∈ rs, r ≠ 109) → stripL (rs ++ rest) true = stripL rest true
  | [], _ => rfl
  | r :: rs, h => by
    have h109 : (r == 109) = false := by rw [beq_eq_false_iff_ne]; exact h r (by simp)
    rw [List.cons_append, stripL_in rfl, h109]
    exact stripL_skip rest rs (fun x hx => h x (by simp [hx]))

theorem seq_one (x : Int) : seq1L x = seqL [x] := by
  rw [seqL, if_neg (by simp), seq1L, List.map_cons, List.map_nil, Lib.join_cons]
  simp [Lib.joinTail]

/-- What is printed in a color is stripped to the text. -/
theorem strip_painted (x : Int) (s : ByteArray) (h : ∀ r ∈ runes s, r ≠ 27 ∧ r ≠ 65533) : stripL (runes ⟨(seqL [x] ++ bl s ++ RESET).toArray⟩) false = bl s := by
  rw [runes_painted [x] s (fun r hr => (h r hr).2), ← seq_one, seq1L, chars_append, chars_append]
  have e1 : chars [27, 91] = [27, 91] := by decide
  have e2 : chars [109] = [109] := by decide
  have e3 : chars RESET = [27, 91, 48, 109] := by decide
  rw [e1, e2, e3]
  have hd : ∀ r ∈ chars (codeL x), r ≠ 109 := by
    intro r hr
    obtain ⟨b, hb, rfl⟩ := List.mem_map.1 hr
    have := decL_digits _ b hb
    unfold isDigit at this
    omega
  rw [List.append_assoc, List.append_assoc, List.cons_append, List.cons_append, List.nil_append, stripL_in (by decide), stripL_in (by decide)]
  simp only [show (!((27 : Int) == 109)) = true from rfl, show (!((91 : Int) == 109)) = true from rfl]
  rw [stripL_skip _ _ hd, List.cons_append, List.nil_append, stripL_in rfl]
  simp only [show (!((109 : Int) == 109)) = false from rfl]
  rw [stripL_plain _ _ (fun r hr => (h r hr).1)]
  have := enc_runes s 0 (Nat.zero_le _) (fun r hr => (h r hr).2)
  rw [List.drop_zero] at this
  rw [show runes s = runesFrom s 0 from rfl, this]
  have e4 : stripL [27, 91, 48, 109] false = [] := by decide
  rw [e4, List.append_nil]
end Go.Proofs.YtdkpacgbniclhaaGreatDoor
