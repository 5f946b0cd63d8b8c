/- Walk of laws.FnPaintPrint: it answers true and writes nothing that was there. No condition. -/
import Derived.Test.YtlhpljmnacadeaaSprint
import Derived.Test.YtlhpljmnacadeaaIs
import Derived.Test.YtlhpljmnacadeaaFits
import Derived.Test.YtlhpljmnacadeaaSimple
import Derived.Test.YtlhpljmnacadeaaPaintPlain
namespace Go.Proofs.Ytlhpljmnacadeaa
open Go.RowKit

theorem replL_shrink (old : List UInt8) : ∀ (n : Nat) (l : List UInt8), l.length ≤ n → (replL old [] l).length ≤ l.length
  | 0, l, h => by rw [List.eq_nil_of_length_eq_zero (by omega : l.length = 0), replL_nil]; exact Nat.le_refl _
  | n + 1, [], _ => by rw [replL_nil]; exact Nat.le_refl _
  | n + 1, x :: t, h => by
    have ht : t.length ≤ n := by simp at h; omega
    cases hp : old.isPrefixOf (x :: t) with
    | true =>
      rw [replL_hit _ hp]
      have := replL_shrink old n (t.drop (old.length - 1)) (by simp; omega)
      simp at this ⊢
      omega
    | false =>
      rw [replL_miss _ hp]
      have := replL_shrink old n t ht
      simp
      omega

theorem seq_bounds (l : List Int) (s : ByteArray) (hl : l.length ≤ 8) (hs : s.size ≤ 500) (hne : bl s ≠ []) (hsim : simpleB s true = true) (hc : ∀ c ∈ l, attrB c = true) :
    (esc2 (bl s) (seqL l)).length ≤ 60000 ∧ (escL (bl s) (seqL l)).length ≤ 60000 := by
  have hq := seqL_len l fun c h => ⟨by have := attr_range (hc c h); omega, (attr_range (hc c h)).2⟩
  have hb : (bl s).length = s.size := bl_size s
  by_cases h0 : l = []
  · subst h0
    have e : seqL [] = [] := by rw [seqL, if_pos rfl]
    rw [e]
    have h27 := simple_no27 hsim
    have r1 : ∀ a : List UInt8, (27 : UInt8) ∉ a → replL RESET (RESET ++ []) a = a := by
      intro a ha
      have := replL_no27 [91, 48, 109] (RESET ++ []) [] a ha
      rw [replL_nil, show a ++ [] = a from List.append_nil a] at this
      exact this
    have e1 : esc1 (bl s) [] = bl s := by
      unfold esc1
      rw [r1 _ h27]
      unfold escPre
      split <;> rfl
    have e2 : esc2 (bl s) [] = bl s ++ escPost (bl s) := by unfold esc2; rw [e1]
    have h2 : (esc2 (bl s) []).length ≤ 504 := by
      rw [e2, List.length_append]
      have : (escPost (bl s)).length ≤ 4 := by unfold escPost; split <;> simp [RESET]
      omega
    refine ⟨by omega, ?_⟩
    unfold escL
    have := replL_shrink ([] ++ RESET) _ (esc2 (bl s) []) (Nat.le_refl _)
    omega
  · obtain ⟨e1, e2⟩ := esc_plain l h0 (bl s) hne (simple_no27 hsim)
    rw [e1, e2]
    simp [RESET]
    omega

theorem fits_true {ss : List ByteArray} (h : fitsB ss = true) : ss.length ≤ 2147483647 ∧ ∀ s ∈ ss, s.size ≤ 2147483647 := by
  unfold fitsB at h; simp at h; exact h
theorem flat_step {ss : List ByteArray} {k : Nat} {x s : ByteArray} (hx : ss[k]? = some x) (hs : bl s = ((ss.take k).map bl).flatten) : bl (s ++ x) = ((ss.take (k + 1)).map bl).flatten := by
  rw [bl_append, hs, take_step hx]; simp

set_option maxRecDepth 100000 in
set_option maxHeartbeats 4000000 in
theorem paintPrint_any (A0 : Option Addr) (n0 c0 : Nat) (l : List Int) (A : Option Addr) (n c : Nat) (ss : List ByteArray) (w : World) (hi : IntsAt w w.heap.size A0 n0 c0 l) (ht : StrsAt w w.heap.size A n c ss) :
    Calls Try.prog 3 #[.slice A0 n0 c0, .slice A n c] w fun e w' => e = .returned (.bool true) ∧ Below w.heap.size w w' := by
  have HIL := Lib.hid hi.len
  have HTL := Lib.hid ht.len
  have hm0 : n0 ≤ 9223372036854775807 := by have := Rd.cap hi; have := Rd.small hi; omega
  have hm1 : n ≤ 9223372036854775807 := by have := Rd.cap ht; have := Rd.small ht; omega
  by_cases h1 : n0 ≤ 2147483647
  case neg =>
    go_enter Try.func3, Try.ntmps3
    go_wp2_with fail
    go_wp2
    go_ret
    exact ⟨rfl, Below.refl _ _⟩
  case pos =>
  cases hf : fitsB ss with
  | false =>
    have HF := Lib.hid hf
    clear hf
    go_enter Try.func3, Try.ntmps3
    go_wp2_with fail
    refine (fits_any _ _ _ ss _ _ ht).mono ?_
    rintro e w1 ⟨rfl, rfl⟩
    rw [HF.out]
    go_wp2
    go_ret
    exact ⟨rfl, Below.refl _ _⟩
  | true =>
    have HF := Lib.hid hf
    clear hf
    have hsh := fits_true HF.out
    have HSH := Lib.hid hsh.2
    have hn := hsh.1
    rw [HTL.out] at hn
    clear hsh
    go_enter Try.func3, Try.ntmps3
    go_wp2_with fail
    refine (fits_any _ _ _ ss _ _ ht).mono ?_
    rintro e w1 ⟨rfl, rfl⟩
    rw [HF.out]
    go_wp2_with fail
    go_loop [5, 20] (fun v5 v20 => ∃ (k : Nat) (s : ByteArray), k ≤ n ∧ v20 = .int .i64 k ∧ v5 = .string s ∧ bl s = ((ss.take k).map bl).flatten ∧ s.size ≤ k * 2147483647) (fun _ v20 => n - (intOf v20).toNat)
    case atStart => exact ⟨0, ⟨#[]⟩, Nat.zero_le _, rfl, rfl, rfl, Nat.zero_le _⟩
    case round =>
      obtain ⟨k, s, hk, rfl, rfl, hs, hz⟩ := hrel
      have HS := Lib.hid hs
      clear hs
      by_cases hlt : k < n
      · obtain ⟨ad, y, rfl, _, hy, hc⟩ := ht.at_ hlt
        have hyz := HSH.out y (List.mem_of_getElem? hy)
        have HY := Lib.hid hy
        clear hy
        go_wp2
        go_round
        case rel => exact ⟨k + 1, s ++ y, by omega, by go_num, rfl, flat_step HY.out HS.out, by rw [ByteArray.size_append]; omega⟩
        case measure => simp [intOf]; omega
      · have hkn : k = n := by omega
        subst hkn
        have HS' := Lib.hid (show bl s = (ss.map bl).flatten by rw [HS.out, List.take_of_length_le (by rw [HTL.out]; exact Nat.le_refl _)])
        go_wp2_with fail
        go_loop [30] (fun v30 => ∃ j : Nat, j ≤ n0 ∧ v30 = .int .i64 j ∧ ∀ c ∈ l.take j, attrB c = true) (fun v30 => n0 - (intOf v30).toNat)
        case atStart => exact ⟨0, Nat.zero_le _, rfl, by simp⟩
        case round =>
          obtain ⟨j, hj, rfl, hat⟩ := hrel
          have HAT := Lib.hid hat
          clear hat
          by_cases hlt2 : j < n0
          · obtain ⟨ad, y, rfl, _, hy, hc⟩ := hi.at_ hlt2
            have HY := Lib.hid hy
            clear hy
            go_wp2_with fail
            refine (attr_any y _).mono ?_
            rintro e w1 ⟨rfl, rfl⟩
            cases ha : attrB y with
            | true =>
              have HA := Lib.hid ha
              clear ha
              go_wp2
              go_round
              case rel => exact ⟨j + 1, by omega, by go_num, by rw [take_step HY.out]; intro c hc; rcases List.mem_append.1 hc with h | h; exact HAT.out c h; simp at h; subst h; exact HA.out⟩
              case measure => simp [intOf]; omega
            | false =>
              go_wp2
              go_ret
              exact ⟨rfl, Below.refl _ _⟩
          · have hjn : j = n0 := by omega
            subst hjn
            have HC := Lib.hid (show ∀ c ∈ l, attrB c = true by have := HAT.out; rw [List.take_of_length_le (by rw [HIL.out]; exact Nat.le_refl _)] at this; exact this)
            by_cases g1 : k ≤ 20
            case neg =>
              go_wp2_with fail
              go_wp2
              go_ret
              exact ⟨rfl, Below.refl _ _⟩
            by_cases g2 : s.size ≤ 500
            case neg =>
              go_wp2_with fail
              go_wp2
              go_ret
              exact ⟨rfl, Below.refl _ _⟩
            cases g3 : s.toList.isEmpty with
            | true =>
              go_wp2_with fail
              go_wp2
              go_ret
              exact ⟨rfl, Below.refl _ _⟩
            | false =>
            have hne := Lib.hid (show bl s ≠ [] by intro e; rw [Lib.toList_data, show s.data.toList = [] from e] at g3; cases g3)
            cases g4 : simpleB s true with
            | false =>
              have G4 := Lib.hid g4
              clear g4
              go_wp2_with fail
              refine (simple_any s true _).mono ?_
              rintro e w1 ⟨rfl, hb1⟩
              rw [G4.out]
              go_wp2
              go_ret
              exact ⟨rfl, hb1⟩
            | true =>
              have G4 := Lib.hid g4
              clear g4
              by_cases g5 : j ≤ 8
              case neg =>
                go_wp2_with fail
                refine (simple_any s true _).mono ?_
                rintro e w1 ⟨rfl, hb1⟩
                rw [G4.out]
                go_wp2
                go_ret
                exact ⟨rfl, hb1⟩
              have hbd := seq_bounds l s (by rw [HIL.out]; exact g5) g2 hne.out G4.out HC.out
              have HBD := Lib.hid hbd
              have HRD := Lib.hid (print_read l s hne.out G4.out HC.out)
              clear hbd
              go_wp2_with fail
              refine (simple_any s true _).mono ?_
              rintro e w1 ⟨rfl, hb1⟩
              rw [G4.out]
              go_wp2_with fail
              refine (colorsPrint_any _ _ _ l _ _ _ ss s _ (by rw [HIL.out]; omega) (fun c hc => by have := attr_range (HC.out c hc); omega) (by omega) HS'.out (by omega) (by have := HBD.out.1; omega) (by have := HBD.out.2; omega) ((hi.below hb1).more hb1.size) ((ht.below hb1).more hb1.size)).mono ?_
              rintro e w2 ⟨rfl, hb2⟩
              have hb12 := hb1.trans (hb2.mono hb1.size)
              clear hb1 hb2
              go_wp2_with fail
              refine (painted_any s _ _ _ l _ (by omega) ((hi.below hb12).more hb12.size)).mono ?_
              rintro e w3 ⟨A', n', c', rfl, hcells, hb3⟩
              have hb13 := hb12.trans (hb3.mono hb12.size)
              clear hb12 hb3
              obtain ⟨got, now, hr1, hr2, hr3⟩ := HRD.out
              have hsize : (ByteArray.mk (paintL (bl s) (seqL l)).toArray).size ≤ 65536 := by
                rw [mk_size]
                have h1 := HBD.out.2
                have h2 : (bl s).length = s.size := bl_size s
                unfold paintL
                split <;> omega
              go_wp2_with fail
              refine (is_true _ _ _ _ _ _ _ (painted s l) got [] now _ hsize hcells (Rd.nil _ _ _) hr1 hr2 hr3).mono ?_
              rintro e w4 ⟨rfl, hb4⟩
              have hb14 := hb13.trans (hb4.mono hb13.size)
              go_wp2
              go_ret
              exact ⟨rfl, hb14⟩
end Go.Proofs.Ytlhpljmnacadeaa
