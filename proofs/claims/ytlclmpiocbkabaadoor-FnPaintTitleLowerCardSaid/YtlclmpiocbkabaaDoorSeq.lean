/- Walk of spec.TxSequence: what it makes of some codes. Condition: each code lies from 0 to 999, the table of powers of ten reads as it was laid. -/
import Derived.Test.YtlclmpiocbkabaaDoorGood
import Derived.Test.YtlclmpiocbkabaaDoorPrint
import Derived.Test.YtlclmpiocbkabaaDoorUtf
import Derived.Test.YtlclmpiocbkabaaDoorShelf
import Derived.WalkSmall
import Derived.Lib.AppendIntMem
namespace Go.Proofs.YtlclmpiocbkabaaDoor
open Go.RowKit

/-- The table that strconv reads. -/
def TabW (w : World) : Prop := Lib.TabIs Tryd.prog w "internal/strconv.uint64pow10" .u64 Lib.pow10Tab
theorem TabW.below {w w' : World} (h : TabW w) (hb : Below w.heap.size w w') : TabW w' := by
  unfold TabW Lib.TabIs at *
  cases hg : Tryd.prog.globalNamed "internal/strconv.uint64pow10" with
  | none => simp [World.var?, hg] at h
  | some g =>
    refine var?_below hb hg ?_ h
    rcases Nat.lt_or_ge g w.heap.size with h1 | h1
    · exact h1
    · simp [World.var?, hg, Array.getElem?_eq_none h1] at h

theorem decL_eq (n : Nat) : decL n = Lib.decDigits n := by
  by_cases h : n < 10
  · rw [decL_small h, Lib.decDigits, dif_pos h]
  · rw [decL_big h, Lib.decDigits, dif_neg h, decL_eq (n / 10)]
termination_by n
decreasing_by omega
theorem itoaT_any (c : Int) (w : World) (h : 0 ≤ c ∧ c < 1000) (ht : TabW w) :
    Calls Tryd.prog 53 #[.int .i64 c] w fun e w' => e = .returned (.string ⟨(codeL c).toArray⟩) ∧ Below w.heap.size w w' := by
  refine (Tryd.strconv_Itoa c (by omega) (by omega) w ht).mono ?_
  rintro e w' ⟨h1, k, os, h2⟩
  refine ⟨?_, ?_⟩
  · rw [h1, codeL, decL_eq, Lib.itoa, if_neg (by omega)]
  · rw [h2]; exact Lib.below_grow _ _ (Nat.le_refl _) _ _

/-- The digits of some codes, the marks between. -/
def codesL (l : List Int) : List UInt8 := Lib.join (l.map codeL) [59]
theorem codesL_snoc {l : List Int} (x : Int) : codesL (l ++ [x]) = codesL l ++ (if l = [] then [] else [59]) ++ codeL x := by
  unfold codesL
  cases l with
  | nil => simp [Lib.join_cons, Lib.joinTail, Lib.join_nil]
  | cons y l =>
    rw [if_neg (by simp), List.cons_append, List.map_cons, List.map_cons, Lib.join_cons, Lib.join_cons, List.map_append]
    have key : ∀ a b : List (List UInt8), Lib.joinTail [59] (a ++ b) = Lib.joinTail [59] a ++ Lib.joinTail [59] b := by
      intro a b
      simp [Lib.joinTail]
    rw [key]
    simp [Lib.joinTail, List.append_assoc]

set_option maxRecDepth 100000 in
set_option maxHeartbeats 4000000 in
theorem sequence_any (A : Option Addr) (n c : Nat) (l : List Int) (w : World) (h : IntsAt w w.heap.size A n c l) (hn : n ≤ 1000) (hc : ∀ x ∈ l, 0 ≤ x ∧ x < 1000) (ht : TabW w) :
    Calls Tryd.prog 37 #[.slice A n c] w fun e w' => e = .returned (.string ⟨(seqL l).toArray⟩) ∧ Below w.heap.size w w' := by
  have HL := Lib.hid h.len
  have HC := Lib.hid hc
  have HT := Lib.hid ht
  clear hc ht
  by_cases h0 : n = 0
  · have hl : l = [] := List.eq_nil_of_length_eq_zero (by rw [HL.out]; exact h0)
    have HE := Lib.hid (show seqL l = [] by rw [hl, seqL, if_pos rfl])
    clear hl
    subst h0
    go_enter Tryd.func37, Tryd.ntmps37
    go_wp2
    go_ret
    exact ⟨ret_str (by rw [HE.out]), Below.refl _ _⟩
  · have hne : l ≠ [] := by intro e; rw [e] at HL; exact h0 HL.out.symm
    have HE := Lib.hid (show seqL l = [27, 91] ++ codesL l ++ [109] by rw [seqL, if_neg hne]; rfl)
    have hn0 : ((n : Int) == 0) = false := by rw [beq_eq_false_iff_ne]; omega
    clear hne h0
    go_enter Tryd.func37, Tryd.ntmps37
    go_wp2
    go_loopw [3, 11] (fun v3 v11 wr => ∃ (k : Nat) (s : ByteArray), k ≤ n ∧ v11 = .int .i64 k ∧ v3 = .string s ∧ Hid (bl s = [27, 91] ++ codesL (l.take k)) ∧ s.size ≤ 2 + 5 * k ∧ Below w.heap.size w wr) (fun _ v11 _ => n - (intOf v11).toNat)
    case atStart => exact ⟨0, ⟨#[27, 91]⟩, Nat.zero_le _, rfl, rfl, Lib.hid rfl, Nat.le_refl _, Below.refl _ _⟩
    case round =>
      obtain ⟨k, s, hk, rfl, rfl, HS, hz, hbw⟩ := hrel
      have hsz := hbw.size
      by_cases hlt : k < n
      · obtain ⟨ad, x, rfl, _, hx, hcx⟩ := (h.below hbw).at_ hlt
        have HX := Lib.hid hx
        have HXR := Lib.hid (HC.out x (List.mem_of_getElem? hx))
        have htw := HT.out.below hbw
        have hcl : (⟨(codeL x).toArray⟩ : ByteArray).size ≤ 4 := by rw [mk_size]; exact decL_len _ (by have := HXR.out; omega)
        clear hx
        obtain ⟨dx, hdx⟩ : ∃ dx : ByteArray, dx = ⟨(codeL x).toArray⟩ := ⟨_, rfl⟩
        rw [← hdx] at hcl
        have HDX := Lib.hid hdx
        clear hdx
        by_cases hk0 : k = 0
        · have HST := Lib.hid (show bl (s ++ dx) = [27, 91] ++ codesL (l.take (k + 1)) by
            rw [take_step HX.out, codesL_snoc, if_pos (by rw [hk0]; simp), bl_app, HS.out, HDX.out, bl_mk]; simp only [List.append_assoc, List.nil_append])
          have hkz : ¬ (0 : Int) < (k : Int) := by omega
          have hkd : decide ((0 : Int) < (k : Int)) = false := decide_eq_false hkz
          have HK0 := Lib.hid hk0
          clear hk0
          go_wp2_with fail
          refine (itoaT_any x _ HXR.out htw).mono ?_
          rintro e w2 ⟨rfl, hb2⟩
          rw [← HDX.out]
          have hbw2 := hbw.trans (hb2.mono hsz)
          clear hbw hb2 htw
          go_wp2
          go_roundw
          case rel => exact ⟨k + 1, s ++ dx, by omega, by go_num, rfl, HST, by rw [size_app]; omega, hbw2⟩
          case measure => simp [intOf]; omega
        · have hkp : (0 : Int) < (k : Int) := by omega
          have HST := Lib.hid (show bl (s ++ ⟨#[59]⟩ ++ dx) = [27, 91] ++ codesL (l.take (k + 1)) by
            rw [take_step HX.out, codesL_snoc, if_neg (by intro e; have h1 := congrArg List.length e; rw [List.length_take, HL.out] at h1; simp at h1; omega), bl_app, bl_app, HS.out, HDX.out, bl_mk]; simp only [List.append_assoc])
          clear hk0
          go_wp2_with fail
          refine (itoaT_any x _ HXR.out htw).mono ?_
          rintro e w2 ⟨rfl, hb2⟩
          rw [← HDX.out]
          have hbw2 := hbw.trans (hb2.mono hsz)
          clear hbw hb2 htw
          go_wp2
          go_roundw
          case rel => exact ⟨k + 1, s ++ ⟨#[59]⟩ ++ dx, by omega, by go_num, rfl, HST, by rw [size_app, size_app]; show s.size + 1 + dx.size ≤ _; omega, hbw2⟩
          case measure => simp [intOf]; omega
      · have HF := Lib.hid (show (s ++ ⟨#[109]⟩ : ByteArray) = ⟨(seqL l).toArray⟩ by
          apply bl_ext; rw [bl_app, HS.out, bl_mk, HE.out, List.take_of_length_le (by rw [HL.out]; omega)])
        go_wp2
        go_ret
        exact ⟨ret_str HF.out, hbw⟩
end Go.Proofs.YtlclmpiocbkabaaDoor
