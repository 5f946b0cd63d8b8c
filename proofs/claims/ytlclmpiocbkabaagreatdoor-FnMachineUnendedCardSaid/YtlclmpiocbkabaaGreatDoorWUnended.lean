/- Walk of laws.FnMachineUnended: it answers true and writes nothing that was there. Condition: the library's tables as they are laid. -/
import Derived.Test.YtlclmpiocbkabaaGreatDoorOpsAll
import Derived.Deep.RegionHeld3
namespace Go.Proofs.YtlclmpiocbkabaaGreatDoor
open Go.RowKit
set_option linter.unusedVariables false
set_option linter.unusedSimpArgs false

theorem code_digits {c : Int} : ∀ b ∈ codeL c, b.toNat < 128 ∧ b ≠ 109 := fun b hb => by
  have := decL_digits c.toNat b hb
  unfold isDigit at this
  refine ⟨by omega, ?_⟩
  rintro rfl
  exact absurd this.2 (by decide)
theorem own_int1 (w : World) (x : Int) : OwnInts (w.alloc (.cells #[.int .i64 x] 3)) 3 (.slice (some ⟨w.heap.size, 0, none⟩) 1 1) [x] :=
  ⟨rfl, Or.inr ⟨w.heap.size, 1, #[.int .i64 x], rfl, Nat.zero_le _, heap_alloc_new w _, Nat.le_refl _, by unfold maxLen; omega, rfl, rfl⟩⟩
/-- What is behind some sequences and one that does not end. -/
theorem unended_all {l : List Op} (h : ∀ o ∈ l, opRightB o = true) {c : Int} (hc : 0 ≤ c ∧ c < 1000) : consumeAll fresh (chars (opsT l ++ ([27, 91] ++ codeL c))) = ⟨l.foldl opP [], true, 1, [27, 91] ++ codeL c⟩ := by
  rw [chars_append, consume_app, ops_all h]
  exact seq_open rfl code_digits (by have := codeL_len hc; omega)
theorem seqL_one (x : Int) : seqL [x] = ([27, 91] ++ codeL x) ++ [109] := by
  unfold seqL
  rw [if_neg (by simp), List.map_cons, List.map_nil, Lib.join_one]
theorem cut_last {x : Int} : (⟨(seqL [x]).toArray⟩ : ByteArray).extract 0 ((⟨(seqL [x]).toArray⟩ : ByteArray).size - 1) = ⟨([27, 91] ++ codeL x).toArray⟩ := by
  have e := seqL_one x
  apply bl_ext
  rw [bl_mk, bl, Lib.extract_data, mk_size, e]
  simp

set_option maxRecDepth 100000 in
set_option maxHeartbeats 8000000 in
theorem machUnended_any (A : Option Addr) (n c : Nat) (l : List Op) (cx : Int) (w : World) (h : OpsAt w w.heap.size A n c l) (hT : Tabs w ∧ TabW w) :
    Calls Tryz.prog 5 #[.slice A n c, .int .i64 cx] w fun e w' => e = .returned (.bool true) ∧ Below w.heap.size w w' := by
  have HT := Lib.hid hT.1.stay
  have HW := Lib.hid hT.2
  have HL := Lib.hid h.2
  have hm := h.small
  clear hT
  by_cases h31 : 2147483647 < n
  · have q1 : (2147483647 : Int) < (n : Int) := by omega
    go_enter Tryz.func5, Tryz.ntmps5
    go_wp2
    go_ret
    exact ⟨rfl, Below.refl _ _⟩
  have q1 : ¬ (2147483647 : Int) < (n : Int) := by omega
  have h0 : n ≤ 2147483647 := by omega
  clear h31
  go_enter Tryz.func5, Tryz.ntmps5
  go_wp2
  go_loopw [5, 15] (fun v5 v15 wr => ∃ (k : Nat) (s : ByteArray), k ≤ n ∧ v15 = .int .i64 k ∧ v5 = .string s ∧ Hid (bl s = opsT (l.take k) ∧ ∀ o ∈ l.take k, opRightB o = true ∧ o.kind ≤ 2) ∧ s.size ≤ 12 * k ∧ Below w.heap.size w wr) (fun _ v15 _ => n - (intOf v15).toNat)
  case atStart => exact ⟨0, ⟨#[]⟩, Nat.zero_le _, rfl, rfl, Lib.hid ⟨rfl, by simp⟩, Nat.zero_le _, Below.refl _ _⟩
  case round =>
    obtain ⟨k, s, hk, rfl, rfl, HS, hz, hbw⟩ := hrel
    have hsz := hbw.size
    by_cases hlt : k < n
    · obtain ⟨ad, o, rfl, _, hy, hc0, hc1⟩ := (h.below hbw).at_ hlt
      have hk1 : (k : Int) < (n : Int) := by omega
      have HTK := Lib.hid (show l.take (k + 1) = l.take k ++ [o] from take_step hy)
      obtain ⟨kd, x⟩ := o
      dsimp only at hc0 hc1
      have hb1 := (Below.refl wr.heap.size wr).alloc (Nat.le_refl _) (.cells #[.int .i64 kd, .int .i64 x] 24)
      have hbw1 := hbw.trans (hb1.mono hsz)
      have HTW := Lib.hid (HW.out.below hbw1)
      clear hy hb1
      cases hro : opRightB ⟨kd, x⟩ with
      | false =>
        have HRO := Lib.hid hro
        clear hro
        go_wp2_with fail
        refine (ptRight_any kd x _).mono ?_
        rintro e w2 ⟨rfl, hb2⟩
        rw [HRO.out]
        have hbw2 := hbw1.trans (hb2.mono hbw1.size)
        go_wp2
        go_ret
        exact ⟨rfl, hbw2⟩
      | true =>
        have HRO := Lib.hid hro
        clear hro
        by_cases hkd : kd ≤ 2
        · have hkd' : ¬ (2 : Int) < kd := by omega
          go_wp2_with fail
          refine (ptRight_any kd x _).mono ?_
          rintro e w2 ⟨rfl, hb2⟩
          rw [HRO.out]
          have hq0 : w2.cell? ⟨wr.heap.size, 0, none⟩ = some (.int .i64 kd) := (hb2.cell (p := ⟨wr.heap.size, 0, none⟩) (by simp)).trans (box_cell2 wr #[.int .i64 kd, .int .i64 x] 24 0)
          have hq1 : w2.cell? ⟨wr.heap.size, 1, none⟩ = some (.int .i64 x) := (hb2.cell (p := ⟨wr.heap.size, 1, none⟩) (by simp)).trans (box_cell2 wr #[.int .i64 kd, .int .i64 x] 24 1)
          have hbw2 := hbw1.trans (hb2.mono hbw1.size)
          have HTW2 := Lib.hid (HTW.out.below hb2)
          have hqz : (⟨(opSeq ⟨kd, x⟩).toArray⟩ : ByteArray).size ≤ 12 := by rw [mk_size]; exact opSeq_len HRO.out
          obtain ⟨q, hq⟩ : ∃ q : ByteArray, q = ⟨(opSeq ⟨kd, x⟩).toArray⟩ := ⟨_, rfl⟩
          rw [← hq] at hqz
          have HQ := Lib.hid hq
          have hcat : ¬ (9223372036854775807 < s.size + q.size) := by omega
          have HKD := Lib.hid hkd
          have HST := Lib.hid (show bl (s ++ q) = opsT (l.take (k + 1)) ∧ ∀ o ∈ l.take (k + 1), opRightB o = true ∧ o.kind ≤ 2 by
            rw [HTK.out]
            refine ⟨?_, fun o ho => ?_⟩
            · rw [bl_app, HS.out.1, HQ.out, bl_mk]
              simp [opsT]
            · rcases List.mem_append.1 ho with ho | ho
              · exact HS.out.2 o ho
              · rw [List.mem_singleton.1 ho]
                exact ⟨HRO.out, HKD.out⟩)
          clear hb2 hbw1 hq HTW hbw hc0 hc1 hkd
          go_wp2_with fail
          refine (ptSeq_any kd x _ HRO.out HTW2.out).mono ?_
          rintro e w3 ⟨rfl, hb3⟩
          rw [← HQ.out]
          have hbw3 := hbw2.trans (hb3.mono hbw2.size)
          clear hb3 hbw2 hq0 hq1
          go_wp2
          go_roundw
          case rel => exact ⟨k + 1, s ++ q, by omega, by go_num, rfl, HST, by rw [size_app]; omega, hbw3⟩
          case measure => simp [intOf]; omega
        · have hkd' : (2 : Int) < kd := by omega
          go_wp2_with fail
          refine (ptRight_any kd x _).mono ?_
          rintro e w2 ⟨rfl, hb2⟩
          rw [HRO.out]
          have hq0 : w2.cell? ⟨wr.heap.size, 0, none⟩ = some (.int .i64 kd) := (hb2.cell (p := ⟨wr.heap.size, 0, none⟩) (by simp)).trans (box_cell2 wr #[.int .i64 kd, .int .i64 x] 24 0)
          have hbw2 := hbw1.trans (hb2.mono hbw1.size)
          go_wp2
          go_ret
          exact ⟨rfl, hbw2⟩
    · have hkn : k = n := by omega
      subst hkn
      have HSF := Lib.hid (show s = ⟨(opsT l).toArray⟩ ∧ ∀ o ∈ l, opRightB o = true ∧ o.kind ≤ 2 by
        have hlt2 : l.take k = l := List.take_of_length_le (by rw [HL.out]; exact Nat.le_refl _)
        have h1 := HS.out
        rw [hlt2] at h1
        exact ⟨bl_ext (by rw [h1.1, bl_mk]), h1.2⟩)
      by_cases h40 : 40 < k
      · have q2 : (40 : Int) < (k : Int) := by omega
        go_wp2
        go_ret
        exact ⟨rfl, hbw⟩
      have q2 : ¬ (40 : Int) < (k : Int) := by omega
      have hk40 : k ≤ 40 := by omega
      clear h40
      cases hat : attrB cx with
      | false =>
        have HAT := Lib.hid hat
        clear hat
        go_wp2_with fail
        refine (attr_any cx _).mono ?_
        rintro e w2 ⟨rfl, rfl⟩
        rw [HAT.out]
        go_wp2
        go_ret
        exact ⟨rfl, hbw⟩
      | true =>
      have HAT := Lib.hid hat
      have hcx := attr_range hat
      have HCX := Lib.hid hcx
      clear hat
      have hbwA := hbw.alloc hsz (.cells #[.int .i64 cx] 3)
      have htwA := HW.out.below hbwA
      have hone := (own_int1 wr cx).rd
      obtain ⟨A1, c1, hv1, hi1⟩ := hone
      injection hv1 with z1 z2 z3
      subst z1 z3
      clear z2
      have HI1 := Lib.hid hi1
      have HTWA := Lib.hid htwA
      obtain ⟨t, ht⟩ : ∃ t : ByteArray, t = ⟨(seqL [cx]).toArray⟩ := ⟨_, rfl⟩
      have htz : t.size ≤ 8 := by
        rw [ht, mk_size, seqL_one]
        have := codeL_len (c := cx) (by omega)
        simp only [List.length_append, List.length_cons, List.length_nil]
        omega
      have htp : 0 < t.size := by
        rw [ht, mk_size, seqL_one]
        simp
      obtain ⟨u, hu⟩ : ∃ u : ByteArray, u = s ++ t.extract 0 (t.size - 1) := ⟨_, rfl⟩
      have HTT := Lib.hid ht
      have HU := Lib.hid (show u = ⟨(opsT l ++ ([27, 91] ++ codeL cx)).toArray⟩ by
        apply bl_ext
        rw [hu, ht, cut_last, bl_app, HSF.out.1, bl_mk, bl_mk, bl_mk])
      have hes : (t.extract 0 (t.size - 1)).size ≤ t.size := by
        rw [← bl_size, bl, Lib.extract_data, ← bl_size]
        simp
      have huz : u.size ≤ 500 := by rw [hu, size_app]; omega
      have HES := Lib.hid hes
      have HTP := Lib.hid htp
      have HTZ := Lib.hid htz
      have HUE := Lib.hid hu
      have hrl := runes_length u
      have hrs : runes u = chars (opsT l ++ ([27, 91] ++ codeL cx)) := by
        rw [HU.out]
        refine runes_mk _ fun b hb => ?_
        rcases List.mem_append.1 hb with hb | hb
        · exact opsT_ascii l b hb
        · rcases List.mem_append.1 hb with hb | hb
          · simp at hb
            rcases hb with rfl | rfl <;> decide
          · exact (code_digits b hb).1
      have hpos : 0 < (runes u).length := by
        rw [hrs]
        unfold chars
        rw [List.length_map, List.length_append, List.length_append]
        have : ([27, 91] : List UInt8).length = 2 := rfl
        omega
      have hne : runes u ≠ [] := fun e => by rw [e] at hpos; simp at hpos
      have hlast := charStates_last hne
      have hall := unended_all (l := l) (fun o ho => (HSF.out.2 o ho).1) (c := cx) (by omega)
      rw [← hrs] at hall
      rw [hall] at hlast
      obtain ⟨codes, hcd⟩ : ∃ codes, codes = l.foldl opP [] := ⟨_, rfl⟩
      rw [← hcd] at hlast
      have hsm : Same codes (afterL l) := by rw [hcd]; exact ops_same HSF.out.2
      obtain ⟨nr, hnr⟩ : ∃ nr, nr = (runes u).length := ⟨_, rfl⟩
      rw [← hnr] at hlast hpos hrl
      have HNR := Lib.hid hnr
      have HLAST := Lib.hid hlast
      have HAL := Lib.hid (show alikeB codes (afterL l) = true from hsm.alike)
      have HUZ := Lib.hid huz
      clear hnr hlast hsm hcd hall hne hrs ht hi1 htwA hes hu huz htp htz
      go_wp2_with fail
      refine (attr_any cx _).mono ?_
      rintro e w2 ⟨rfl, rfl⟩
      rw [HAT.out]
      go_wp2_with fail
      refine (sequence_any _ _ _ [cx] _ HI1.out (by simp) (by intro y hy; simp at hy; subst hy; have := HCX.out; omega) HTWA.out).mono ?_
      rintro e w3 ⟨rfl, hb3⟩
      rw [← HTT.out]
      have hbw3 := hbwA.trans (hb3.mono hbwA.size)
      clear hb3 hbwA hbw
      have hcat : ¬ (9223372036854775807 < s.size + (t.extract 0 (t.size - 1)).size) := by have := HES.out; have := HTZ.out; omega
      have p7 : (0 : Int) ≤ (t.size : Int) - 1 := by have := HTP.out; omega
      have p8 : (t.size : Int) - 1 ≤ (t.size : Int) := by omega
      have htz := HTZ.out
      have htp := HTP.out
      go_wp2_with fail
      rw [← HUE.out]
      refine (ptSteps_any u _ (by have := HUZ.out; omega)).mono ?_
      rintro e w4 ⟨v4, rfl, hown4, hb4⟩
      have hbw4 := hbw3.trans (hb4.mono hbw3.size)
      have HT4 := Lib.hid (HT.out.then hbw4).now.stay
      have HO4 := Lib.hid hown4
      clear hown4 hb4 hbw3
      go_wp2_with fail
      refine (parseChars_any u v4 _ _ HO4.out (by have := HUZ.out; omega) HT4.out).mono ?_
      rintro e w5 ⟨v5, rfl, hst, hb5⟩
      rw [← HNR.out] at hst
      have hbw5 := hbw4.trans (hb5.mono hbw4.size)
      obtain ⟨ad5, c5, st, A', d', rfl, hx, e0, e1, e2, e3, e4, hrow⟩ := hst.own (show nr - 1 < nr by omega)
      have hx2 := HLAST.out
      rw [hx] at hx2
      injection hx2 with hx2
      subst hx2
      dsimp only [stOf] at e0 e1 e2 e3 e4 hrow
      obtain ⟨cl, hcle⟩ : ∃ cl, cl = codes.length := ⟨_, rfl⟩
      rw [← hcle] at e2 hrow
      have g1 : (0 : Int) < (nr : Int) := by omega
      have g2 : IntKind.i64.wrap ((nr : Int) - 1) = ((nr - 1 : Nat) : Int) := by have := HUZ.out; rw [IntKind.wrap_i64]; omega
      have g3 : (0 : Int) ≤ ((nr - 1 : Nat) : Int) := by omega
      have g4 : ((nr - 1 : Nat) : Int) < (nr : Int) := by omega
      have g6 : decide (0 < nr) = true := decide_eq_true hpos
      have hi5 : IntsAt w5 w5.heap.size A' cl d' codes := by
        obtain ⟨A9, c9, hv9, hi9⟩ := own_rd hrow
        injection hv9 with z1 z2 z3
        subst z1 z3
        exact hi9
      have hK5 : (ad5.add ((nr - 1) * 5)).block < w5.heap.size := block_lt_of_cell e0
      have hop5 : OpsAt w5 w5.heap.size A k c l := (h.below hbw5).more hbw5.size
      have HI0 := Lib.hid (show IntsAt w5.drew w5.drew.heap.size A' cl d' codes from Rd.drew hi5)
      have HOP0 := Lib.hid (show OpsAt w5.drew w5.drew.heap.size A k c l from ⟨Rd.drew hop5.1, hop5.2⟩)
      have hb55 : Below w5.heap.size w5 w5 := Below.refl _ _
      clear hst hb5 hx hcle hrow hbw4 hi5 hop5 e1 e3 e4
      go_upto_region 15 with (fail)
      go_region_held3 (fun w' => w'.cell? (ad5.add ((nr - 1) * 5)) = some (.bool true) ∧ w'.cell? ⟨(ad5.add ((nr - 1) * 5)).block, (ad5.add ((nr - 1) * 5)).off + 2, none⟩ = some (.slice A' cl d') ∧ Below w5.heap.size w5 w')
        (first | exact ⟨e0, e2, hb55.drew⟩ | exact ⟨hc0, hc2, hbC⟩)
        (first
          | (go_at_call 15; refine (ptAfter_any A k c l _ HOP0.out (by omega) HSF.out.2).mono ?_; rintro e wc ⟨vc, rfl, hownc, hbc⟩; obtain ⟨Ac, cc, rfl, hic⟩ := hownc.rd; have hic2 := Lib.hid hic; have hiac := Lib.hid ((HI0.out.below hbc).more hbc.size); have hc0 := (hbc.cell (p := ad5.add ((nr - 1) * 5)) hK5).trans e0; have hc2 := (hbc.cell (p := ⟨(ad5.add ((nr - 1) * 5)).block, (ad5.add ((nr - 1) * 5)).off + 2, none⟩) hK5).trans e2; have hbC := hb55.drew.trans hbc; clear hbc hownc hic)
          | (go_at_call 10; refine (alike_any A' Ac cl d' _ cc codes (afterL l) _ _ hiac.out hic2.out).mono ?_; rintro e w9 ⟨rfl, rfl⟩; rw [HAL.out]))
      have hbF := hbw5.trans (hbC.mono hbw5.size)
      go_wp2
      go_ret
      exact ⟨rfl, hbF⟩
end Go.Proofs.YtlclmpiocbkabaaGreatDoor
