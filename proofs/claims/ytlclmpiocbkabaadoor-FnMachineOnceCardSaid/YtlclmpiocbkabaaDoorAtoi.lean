/- Walks of the light strconv's lower, parseUint, parseInt, Atoi (at base 10): what they read. Condition: the text is not longer than the bound that is named. -/
import Derived.Test.YtlclmpiocbkabaaDoorMachPlain
import Derived.Test.YtlclmpiocbkabaaDoorSearch
import Derived.Laws.Closers25b
import Derived.Lib.ConvBytes
import Derived.IntWalk
namespace Go.Proofs.YtlclmpiocbkabaaDoor
open Go.RowKit
set_option linter.unusedVariables false

def synE : Value := .iface 167 (.string ⟨#[105, 110, 118, 97, 108, 105, 100, 32, 115, 121, 110, 116, 97, 120]⟩)
def rangeE : Value := .iface 167 (.string ⟨#[118, 97, 108, 117, 101, 32, 111, 117, 116, 32, 111, 102, 32, 114, 97, 110, 103, 101]⟩)
/-- What parseUint answers. -/
def NumR.val : NumR → Value
  | .ok n => .tuple #[.int .u64 n, .nilIface]
  | .range => .tuple #[.int .u64 18446744073709551615, rangeE]
  | .noNum => .tuple #[.int .u64 0, synE]

set_option maxHeartbeats 400000 in
theorem lower_any (c : Int) (w : World) (h : 0 ≤ c ∧ c ≤ 255) :
    Calls Tryd.prog 141 #[.int .u8 c] w fun e w' => (∃ d : Int, e = .returned (.int .u8 d) ∧ 0 ≤ d ∧ d ≤ 255) ∧ w = w' := by
  go_enter Tryd.func141, Tryd.ntmps141
  go_wp2
  go_ret
  exact ⟨⟨_, rfl, (bits_within .or .u8 c 32).1, (bits_within .or .u8 c 32).2⟩, rfl⟩

theorem num_stop {m : Nat} {b : UInt8} {t : List UInt8} (h : digitB b = false) : numL m (b :: t) = .noNum := by
  rw [numL, if_neg (by rw [h]; simp)]
theorem num_over {m : Nat} {b : UInt8} {t : List UInt8} (h : digitB b = true) (hm : m > (18446744073709551615 - (b.toNat - 48)) / 10) : numL m (b :: t) = .range := by
  rw [numL, if_pos h, if_pos hm]
theorem num_next {m : Nat} {b : UInt8} {t : List UInt8} (h : digitB b = true) (hm : ¬ m > (18446744073709551615 - (b.toNat - 48)) / 10) : numL m (b :: t) = numL (m * 10 + (b.toNat - 48)) t := by
  rw [numL, if_pos h, if_neg hm]

set_option maxRecDepth 100000 in
set_option maxHeartbeats 8000000 in
theorem parseUint_any (s : ByteArray) (w : World) (hs : s.size ≤ 1099511627776) :
    Calls Tryd.prog 128 #[.string s, .int .i64 10, .int .i64 0] w fun e w' => e = .returned (uintL (bl s)).val ∧ Below w.heap.size w w' := by
  by_cases h0 : s.size = 0
  · obtain rfl : s = ⟨#[]⟩ := bl_ext (List.eq_nil_of_length_eq_zero (by rw [bl_size]; exact h0))
    go_enter Tryd.func128, Tryd.ntmps128
    go_wp2
    go_ret2
    exact ⟨rfl, Below.refl _ _⟩
  · have hemp : s.toList.isEmpty = false := by
      rw [Lib.toList_data]
      cases h : s.data.toList with
      | nil => exfalso; apply h0; rw [← bl_size]; exact congrArg List.length h
      | cons a t => rfl
    have HU := Lib.hid (show uintL (bl s) = numL 0 ((bl s).drop 0) by
      unfold uintL
      rw [if_neg (by intro e; apply h0; rw [← bl_size, e]; rfl), List.drop_zero])
    have hc := fun w => Lib.run_convert_string_bytes (P := Tryd.prog) w 9 62 5 s Tryd.underlying9 Tryd.underlying62 Tryd.underlying5
    obtain ⟨W1, hW1⟩ : ∃ W1, W1 = Lib.bytesWorld w 5 s := ⟨_, rfl⟩
    have hB : ∀ t, t < s.size → W1.cell? ⟨w.heap.size, t, none⟩ = some (.int .u8 (s.data.toList.getD t 0).toNat) := fun t ht => by rw [hW1]; exact Lib.bytesWorld_cell w 5 s t ht
    have hW : Below w.heap.size w W1 := by rw [hW1]; exact ⟨rfl, rfl, rfl, by rw [Lib.bytesWorld_size]; omega, fun j hj => Lib.bytesWorld_at_old w 5 s j hj⟩
    have hA : IntKind.u64.wrap (IntKind.u64.wrap 18446744073709551616 - 1) = 18446744073709551615 := by decide
    have HB := Lib.hid hB
    have HW := Lib.hid hW
    have HW1 := Lib.hid hW1
    clear hB hW hW1
    go_enter Tryd.func128, Tryd.ntmps128
    go_wp2
    rw [← HW1.out]
    go_loopw [11, 12, 88] (fun v11 v12 v88 wr => wr = W1 ∧ ∃ k m : Nat, k ≤ s.size ∧ v88 = .int .i64 k ∧ v11 = .int .u64 m ∧ v12 = .bool false ∧ m < 18446744073709551616 ∧ Hid (uintL (bl s) = numL m ((bl s).drop k))) (fun _ _ v88 _ => s.size - (intOf v88).toNat)
    case atStart => exact ⟨rfl, 0, 0, Nat.zero_le _, rfl, rfl, rfl, by omega, HU⟩
    case round =>
      obtain ⟨hwr, k, m, hk, rfl, rfl, rfl, hm, HN⟩ := hrel
      subst hwr
      by_cases hkn : k < s.size
      · obtain ⟨b, hb⟩ : ∃ b, b = s.data.toList.getD k 0 := ⟨_, rfl⟩
        have hbk : (bl s)[k]? = some b := by
          have hlt : k < (bl s).length := by rw [bl_size]; exact hkn
          rw [hb, List.getD_eq_getElem?_getD, List.getElem?_eq_getElem hlt]; rfl
        have hcell := HB.out k hkn
        rw [← hb] at hcell
        have HD := Lib.hid (drop_step hbk)
        obtain ⟨c, hcc⟩ : ∃ c : Int, ((b.toNat : Nat) : Int) = c := ⟨_, rfl⟩
        have hc0 : 0 ≤ c ∧ c ≤ 255 := by have := b.toNat_lt; omega
        rw [hcc] at hcell
        have HC := Lib.hid hcc
        clear hb hcc hbk
        by_cases hd : 48 ≤ c ∧ c ≤ 57
        · obtain ⟨hd0, hd1⟩ := hd
          have hdb : digitB b = true := by unfold digitB; have := HC.out; simp; omega
          have h95 : ¬ c = 95 := by omega
          obtain ⟨d, hdd⟩ : ∃ d : Nat, c - 48 = (d : Int) := ⟨(c - 48).toNat, by omega⟩
          have hd9 : d ≤ 9 := by omega
          have hbd : b.toNat - 48 = d := by have := HC.out; omega
          have hA2 : IntKind.u64.wrap (18446744073709551615 - (d : Int)) = 18446744073709551615 - (d : Int) := IntWalk.u64_in _ ⟨by omega, by omega⟩
          obtain ⟨x, hx⟩ : ∃ x : Nat, x = (18446744073709551615 - d) / 10 := ⟨_, rfl⟩
          have hA3 : IntKind.u64.wrap ((18446744073709551615 - (d : Int)).tdiv 10) = (x : Int) := by
            rw [IntWalk.u64_quo _ _ ⟨by omega, by omega, by omega⟩]
            omega
          by_cases hov : m > x
          · have HR := Lib.hid (show uintL (bl s) = .range by rw [HN.out, HD.out, num_over hdb (by rw [hbd, ← hx]; exact hov)])
            have hmx : ¬ (m : Int) ≤ (x : Int) := by omega
            clear HN HD HB
            go_wp2
            go_ret2
            exact ⟨by rw [HR.out]; rfl, HW.out⟩
          · have HR := Lib.hid (show uintL (bl s) = numL (m * 10 + d) ((bl s).drop (k + 1)) by rw [HN.out, HD.out, num_next hdb (by rw [hbd, ← hx]; exact hov), hbd])
            have hm2 : m * 10 + d < 18446744073709551616 := by omega
            have hM1 : IntKind.u64.wrap ((m : Int) * 10) = (m : Int) * 10 := IntWalk.u64_in _ ⟨by omega, by omega⟩
            have hM2 : IntKind.u64.wrap ((m : Int) * 10 + (d : Int)) = (m : Int) * 10 + (d : Int) := IntWalk.u64_in _ ⟨by omega, by omega⟩
            have hmx : (m : Int) ≤ (x : Int) := by omega
            clear HN HD HB
            go_wp2
            go_roundw
            case rel => exact ⟨trivial, k + 1, m * 10 + d, by omega, rfl, by rw [Int.natCast_add, Int.natCast_mul]; rfl, rfl, hm2, HR⟩
            case measure => simp [intOf]; omega
        · have hdb : digitB b = false := by unfold digitB; have := HC.out; simp; omega
          have HR := Lib.hid (show uintL (bl s) = .noNum by rw [HN.out, HD.out, num_stop hdb])
          clear HN HD HB
          have key : ∀ d3 : Int, 0 ≤ d3 ∧ d3 ≤ 255 → ∃ y : Int, IntKind.u8.wrap (d3 - 97) = y ∧ 0 ≤ y ∧ y ≤ 255 ∧ IntKind.u64.wrap (y + 10) = y + 10 ∧ IntKind.u64.wrap y = y := fun d3 h => by
            have h1 := wrap_within .u8 (d3 - 97)
            have h2 : IntKind.u8.min = 0 := rfl
            have h3 : IntKind.u8.max = 255 := by decide
            rw [h2, h3] at h1
            exact ⟨_, rfl, h1.1, h1.2, IntWalk.u64_in _ ⟨by omega, by omega⟩, IntWalk.u64_in _ ⟨by omega, by omega⟩⟩
          rcases (show c = 95 ∨ c < 48 ∨ (57 < c ∧ ¬ c = 95) by omega) with h95 | h95 | h95
          · subst h95
            go_wp2_with fail
            refine (lower_any _ _ hc0).mono ?_
            rintro e w1 ⟨⟨d1, rfl, hd1⟩, rfl⟩
            by_cases q1 : 97 ≤ d1
            · go_wp2_with fail
              refine (lower_any _ _ hc0).mono ?_
              rintro e w1 ⟨⟨d2, rfl, hd2⟩, rfl⟩
              by_cases q2 : d2 ≤ 122
              · go_wp2_with fail
                refine (lower_any _ _ hc0).mono ?_
                rintro e w1 ⟨⟨d3, rfl, hd3⟩, rfl⟩
                obtain ⟨y, hy1, hy2, hy3, hy4, hy5⟩ := key d3 hd3
                have hy6 : 10 ≤ y + 10 := by omega
                go_wp2
                go_ret2
                exact ⟨by rw [HR.out]; rfl, HW.out⟩
              · go_wp2
                go_ret2
                exact ⟨by rw [HR.out]; rfl, HW.out⟩
            · go_wp2
              go_ret2
              exact ⟨by rw [HR.out]; rfl, HW.out⟩
          · have h48 : ¬ 48 ≤ c := by omega
            have h96 : ¬ c = 95 := by omega
            go_wp2_with fail
            refine (lower_any _ _ hc0).mono ?_
            rintro e w1 ⟨⟨d1, rfl, hd1⟩, rfl⟩
            by_cases q1 : 97 ≤ d1
            · go_wp2_with fail
              refine (lower_any _ _ hc0).mono ?_
              rintro e w1 ⟨⟨d2, rfl, hd2⟩, rfl⟩
              by_cases q2 : d2 ≤ 122
              · go_wp2_with fail
                refine (lower_any _ _ hc0).mono ?_
                rintro e w1 ⟨⟨d3, rfl, hd3⟩, rfl⟩
                obtain ⟨y, hy1, hy2, hy3, hy4, hy5⟩ := key d3 hd3
                have hy6 : 10 ≤ y + 10 := by omega
                go_wp2
                go_ret2
                exact ⟨by rw [HR.out]; rfl, HW.out⟩
              · go_wp2
                go_ret2
                exact ⟨by rw [HR.out]; rfl, HW.out⟩
            · go_wp2
              go_ret2
              exact ⟨by rw [HR.out]; rfl, HW.out⟩
          · have h48 : 48 ≤ c := by omega
            have h57 : ¬ c ≤ 57 := by omega
            have h96 : ¬ c = 95 := h95.2
            go_wp2_with fail
            refine (lower_any _ _ hc0).mono ?_
            rintro e w1 ⟨⟨d1, rfl, hd1⟩, rfl⟩
            by_cases q1 : 97 ≤ d1
            · go_wp2_with fail
              refine (lower_any _ _ hc0).mono ?_
              rintro e w1 ⟨⟨d2, rfl, hd2⟩, rfl⟩
              by_cases q2 : d2 ≤ 122
              · go_wp2_with fail
                refine (lower_any _ _ hc0).mono ?_
                rintro e w1 ⟨⟨d3, rfl, hd3⟩, rfl⟩
                obtain ⟨y, hy1, hy2, hy3, hy4, hy5⟩ := key d3 hd3
                have hy6 : 10 ≤ y + 10 := by omega
                go_wp2
                go_ret2
                exact ⟨by rw [HR.out]; rfl, HW.out⟩
              · go_wp2
                go_ret2
                exact ⟨by rw [HR.out]; rfl, HW.out⟩
            · go_wp2
              go_ret2
              exact ⟨by rw [HR.out]; rfl, HW.out⟩
      · have HR := Lib.hid (show uintL (bl s) = .ok m by rw [HN.out, List.drop_of_length_le (by rw [bl_size]; omega)]; rfl)
        clear HN HB
        go_wp2
        go_ret2
        exact ⟨by rw [HR.out]; rfl, HW.out⟩

theorem neq_range (w : World) : (binOp .neq 84 rangeE rangeE).run Tryd.prog w = .ok (.bool false) w := by kernel_rfl
theorem neq_syn (w : World) : (binOp .neq 84 synE rangeE).run Tryd.prog w = .ok (.bool true) w := by kernel_rfl
/-- What parseInt and Atoi answer: a number, or an error. -/
def intA (r : Option Int) (v : Int) (er : Value) : Prop := match r with
  | some x => v = x ∧ er = .nilIface
  | none => ∃ t u, er = .iface t u
set_option maxRecDepth 100000 in
set_option maxHeartbeats 2000000 in
theorem parseInt_any (s : ByteArray) (w : World) (hs : s.size ≤ 1099511627776) :
    Calls Tryd.prog 103 #[.string s, .int .i64 10, .int .i64 0] w fun e w' => (∃ v er, e = .returned (.tuple #[.int .i64 v, er]) ∧ intA (atoiL (bl s)) v er) ∧ Below w.heap.size w w' := by
  by_cases h0 : s.size = 0
  · obtain rfl : s = ⟨#[]⟩ := bl_ext (List.eq_nil_of_length_eq_zero (by rw [bl_size]; exact h0))
    go_enter Tryd.func103, Tryd.ntmps103
    go_wp2
    go_ret2
    exact ⟨⟨_, _, rfl, _, _, rfl⟩, Below.refl _ _⟩
  · have hemp : s.toList.isEmpty = false := by
      rw [Lib.toList_data]
      cases h : s.data.toList with
      | nil => exfalso; apply h0; rw [← bl_size]; exact congrArg List.length h
      | cons a t => rfl
    have hpos : 0 < s.size := by omega
    obtain ⟨b, hb⟩ : ∃ b : UInt8, b = s[0]'hpos := ⟨_, rfl⟩
    have hcons : bl s = b :: (bl s).drop 1 := by
      have := drop_step (l := bl s) (k := 0) (x := b) (by rw [List.getElem?_eq_getElem (by rw [bl_size]; exact hpos), hb]; rfl)
      rw [List.drop_zero] at this; exact this
    have htl : bl (s.extract 1 s.size) = (bl s).drop 1 := Lib.extract_to_end s _
    have htz : (s.extract 1 s.size).size ≤ 1099511627776 := by rw [← bl_size, htl, List.length_drop, bl_size]; omega
    obtain ⟨c, hc⟩ : ∃ c : Int, ((s[0]'hpos).toNat : Int) = c := ⟨_, rfl⟩
    have hbc : (b.toNat : Int) = c := by rw [hb]; exact hc
    have hcut : IntKind.u64.wrap 9223372036854775808 = 9223372036854775808 := by decide
    have HC := Lib.hid hcons
    have HT := Lib.hid htl
    have HBC := Lib.hid hbc
    by_cases h45 : c = 45
    · have hA := Lib.hid (show atoiL (bl s) = match uintL (bl (s.extract 1 s.size)) with
        | .ok u => if u > 9223372036854775808 then none else some (-(u : Int))
        | _ => none by
          have e : b = 45 := UInt8.toNat_inj.1 (by have := HBC.out; simp; omega)
          rw [HT.out]
          conv => lhs; rw [HC.out]
          rw [atoiL, if_pos (Or.inl e)]
          simp only [e, if_true]
          cases uintL (List.drop 1 (bl s)) <;> rfl)
      obtain ⟨R, hR⟩ : ∃ R, R = uintL (bl (s.extract 1 s.size)) := ⟨_, rfl⟩
      rw [← hR] at hA
      have HR := Lib.hid hR
      clear hR hcons htl hbc hb
      subst h45
      go_enter Tryd.func103, Tryd.ntmps103
      go_wp2_with fail
      refine (parseUint_any _ _ htz).mono ?_
      rintro e w1 ⟨rfl, hbw⟩
      rw [← HR.out]
      cases R with
      | ok u =>
        unfold NumR.val
        by_cases hu : 9223372036854775808 < u
        · have hu1 : (9223372036854775808 : Int) < (u : Int) := by omega
          go_wp2
          go_ret2
          exact ⟨⟨_, _, rfl, by rw [hA]; dsimp only; rw [if_pos hu]; exact ⟨_, _, rfl⟩⟩, hbw⟩
        · have hu1 : ¬ (9223372036854775808 : Int) < (u : Int) := by omega
          have hv : wrap64 (-wrap64 (u : Int)) = -(u : Int) := by
            unfold wrap64
            omega
          go_wp2
          go_ret2
          exact ⟨⟨_, _, rfl, by rw [hA]; dsimp only; rw [if_neg hu]; exact ⟨hv, rfl⟩⟩, hbw⟩
      | range =>
        have hq := neq_range
        unfold NumR.val
        unfold rangeE at hq ⊢
        go_wp2
        go_ret2
        exact ⟨⟨_, _, rfl, by rw [hA]; exact ⟨_, _, rfl⟩⟩, hbw⟩
      | noNum =>
        have hq := neq_syn
        unfold NumR.val
        unfold rangeE synE at hq
        unfold synE
        go_wp2
        go_ret2
        exact ⟨⟨_, _, rfl, by rw [hA]; exact ⟨_, _, rfl⟩⟩, hbw⟩
    · by_cases h43 : c = 43
      · skip
        have hA := Lib.hid (show atoiL (bl s) = match uintL (bl (s.extract 1 s.size)) with
          | .ok u => if u ≥ 9223372036854775808 then none else some (u : Int)
          | _ => none by
            have e : b = 43 := UInt8.toNat_inj.1 (by have := HBC.out; simp; omega)
            rw [HT.out]
            conv => lhs; rw [HC.out]
            rw [atoiL, if_pos (Or.inr e)]
            simp only [e]
            cases uintL (List.drop 1 (bl s)) <;> rfl)
        obtain ⟨R, hR⟩ : ∃ R, R = uintL (bl (s.extract 1 s.size)) := ⟨_, rfl⟩
        rw [← hR] at hA
        have HR := Lib.hid hR
        clear hR hcons htl hbc hb
        subst h43
        go_enter Tryd.func103, Tryd.ntmps103
        go_wp2_with fail
        refine (parseUint_any _ _ htz).mono ?_
        rintro e w1 ⟨rfl, hbw⟩
        rw [← HR.out]
        cases R with
        | ok u =>
          unfold NumR.val
          by_cases hu : 9223372036854775808 ≤ u
          · have hu1 : (9223372036854775808 : Int) ≤ (u : Int) := by omega
            go_wp2
            go_ret2
            exact ⟨⟨_, _, rfl, by rw [hA]; dsimp only; rw [if_pos hu]; exact ⟨_, _, rfl⟩⟩, hbw⟩
          · obtain ⟨U, hU⟩ : ∃ U : Int, U = (u : Int) := ⟨_, rfl⟩
            have hu1 : ¬ (9223372036854775808 : Int) ≤ U := by omega
            have hv := Lib.hid (show wrap64 U = (u : Int) by unfold wrap64; omega)
            have HU := Lib.hid hu
            dsimp only
            rw [← hU]
            clear hu hU
            go_wp2
            go_ret2
            exact ⟨⟨_, _, rfl, by rw [hA]; dsimp only; rw [if_neg HU.out]; exact ⟨hv.out, rfl⟩⟩, hbw⟩
        | range =>
          have hq := neq_range
          unfold NumR.val
          unfold rangeE at hq ⊢
          go_wp2
          go_ret2
          exact ⟨⟨_, _, rfl, by rw [hA]; exact ⟨_, _, rfl⟩⟩, hbw⟩
        | noNum =>
          have hq := neq_syn
          unfold NumR.val
          unfold rangeE synE at hq
          unfold synE
          go_wp2
          go_ret2
          exact ⟨⟨_, _, rfl, by rw [hA]; exact ⟨_, _, rfl⟩⟩, hbw⟩
      · skip
        have hA := Lib.hid (show atoiL (bl s) = match uintL (bl s) with
          | .ok u => if u ≥ 9223372036854775808 then none else some (u : Int)
          | _ => none by
            have e : b ≠ 45 := by rintro rfl; exact h45 (by have := HBC.out; simpa using this.symm)
            have e2 : b ≠ 43 := by rintro rfl; exact h43 (by have := HBC.out; simpa using this.symm)
            conv => lhs; rw [HC.out]
            rw [atoiL, if_neg (fun h => h.elim e e2), ← HC.out]
            simp only [e, if_false]
            cases uintL (bl s) <;> rfl)
        obtain ⟨R, hR⟩ : ∃ R, R = uintL (bl s) := ⟨_, rfl⟩
        rw [← hR] at hA
        have HR := Lib.hid hR
        clear hR hcons htl hbc hb
        have q45 : (c == 45) = false := by rw [beq_eq_false_iff_ne]; exact h45
        have q43 : (c == 43) = false := by rw [beq_eq_false_iff_ne]; exact h43
        go_enter Tryd.func103, Tryd.ntmps103
        go_wp2_with fail
        refine (parseUint_any _ _ hs).mono ?_
        rintro e w1 ⟨rfl, hbw⟩
        rw [← HR.out]
        cases R with
        | ok u =>
          unfold NumR.val
          by_cases hu : 9223372036854775808 ≤ u
          · have hu1 : (9223372036854775808 : Int) ≤ (u : Int) := by omega
            go_wp2
            go_ret2
            exact ⟨⟨_, _, rfl, by rw [hA]; dsimp only; rw [if_pos hu]; exact ⟨_, _, rfl⟩⟩, hbw⟩
          · obtain ⟨U, hU⟩ : ∃ U : Int, U = (u : Int) := ⟨_, rfl⟩
            have hu1 : ¬ (9223372036854775808 : Int) ≤ U := by omega
            have hv := Lib.hid (show wrap64 U = (u : Int) by unfold wrap64; omega)
            have HU := Lib.hid hu
            dsimp only
            rw [← hU]
            clear hu hU
            go_wp2
            go_ret2
            exact ⟨⟨_, _, rfl, by rw [hA]; dsimp only; rw [if_neg HU.out]; exact ⟨hv.out, rfl⟩⟩, hbw⟩
        | range =>
          have hq := neq_range
          unfold NumR.val
          unfold rangeE at hq ⊢
          go_wp2
          go_ret2
          exact ⟨⟨_, _, rfl, by rw [hA]; exact ⟨_, _, rfl⟩⟩, hbw⟩
        | noNum =>
          have hq := neq_syn
          unfold NumR.val
          unfold rangeE synE at hq
          unfold synE
          go_wp2
          go_ret2
          exact ⟨⟨_, _, rfl, by rw [hA]; exact ⟨_, _, rfl⟩⟩, hbw⟩

set_option maxRecDepth 100000 in
set_option maxHeartbeats 2000000 in
theorem atoi_any (s : ByteArray) (w : World) (hs : s.size ≤ 1099511627776) :
    Calls Tryd.prog 89 #[.string s] w fun e w' => (∃ v er, e = .returned (.tuple #[.int .i64 v, er]) ∧ intA (atoiL (bl s)) v er) ∧ Below w.heap.size w w' := by
  go_enter Tryd.func89, Tryd.ntmps89
  go_wp2_with fail
  refine (parseInt_any _ _ hs).mono ?_
  rintro e w1 ⟨⟨v, er, rfl, hA⟩, hbw⟩
  cases hr : atoiL (bl s) with
  | some x =>
    rw [hr] at hA
    obtain ⟨rfl, rfl⟩ := hA
    go_wp2
    go_ret2
    exact ⟨⟨_, _, rfl, by rw [hr]; exact ⟨rfl, rfl⟩⟩, hbw⟩
  | none =>
    rw [hr] at hA
    obtain ⟨t, u, rfl⟩ := hA
    go_wp2
    go_ret2
    exact ⟨⟨_, _, rfl, by rw [hr]; exact ⟨_, _, rfl⟩⟩, hbw.alloc (by have := hbw.size; omega) _⟩
end Go.Proofs.YtlclmpiocbkabaaDoor
