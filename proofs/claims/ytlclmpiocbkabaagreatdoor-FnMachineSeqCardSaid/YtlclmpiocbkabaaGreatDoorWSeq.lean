/- Walk of laws.FnMachineSeq: it answers true and writes nothing that was there. Condition: the library's tables as they are laid. -/
import Derived.Test.YtlclmpiocbkabaaGreatDoorOpsAll
import Derived.Deep.RegionHeld3
namespace Go.Proofs.YtlclmpiocbkabaaGreatDoor
open Go.RowKit
set_option linter.unusedVariables false
set_option linter.unusedSimpArgs false

set_option maxRecDepth 100000 in
set_option maxHeartbeats 8000000 in
theorem machSeq_any (A : Option Addr) (n c : Nat) (l : List Op) (w : World) (h : OpsAt w w.heap.size A n c l) (hT : Tabs w ∧ TabW w) :
    Calls Tryz.prog 4 #[.slice A n c] w fun e w' => e = .returned (.bool true) ∧ Below w.heap.size w w' := by
  have HT := Lib.hid hT.1.stay
  have HW := Lib.hid hT.2
  have HL := Lib.hid h.2
  have hm := h.small
  clear hT
  by_cases h40 : 40 < n
  · by_cases h1 : n ≤ 2147483647
    · have q1 : ¬ (2147483647 : Int) < (n : Int) := by omega
      have q2 : (40 : Int) < (n : Int) := by omega
      go_enter Tryz.func4, Tryz.ntmps4
      go_wp2
      go_ret
      exact ⟨rfl, Below.refl _ _⟩
    · have q1 : (2147483647 : Int) < (n : Int) := by omega
      go_enter Tryz.func4, Tryz.ntmps4
      go_wp2
      go_ret
      exact ⟨rfl, Below.refl _ _⟩
  have h0 : n ≤ 40 := by omega
  clear h40
  have q1 : ¬ (2147483647 : Int) < (n : Int) := by omega
  have q2 : ¬ (40 : Int) < (n : Int) := by omega
  by_cases h00 : n = 0
  · have q3 : (n == 0) = true := by rw [h00]; rfl
    have q4 : ((n : Int) == 0) = true := by rw [h00]; rfl
    have HN0 := Lib.hid h00
    clear h00
    go_enter Tryz.func4, Tryz.ntmps4
    go_wp2
    go_ret
    exact ⟨rfl, Below.refl _ _⟩
  have q3 : (n == 0) = false := by rw [beq_eq_false_iff_ne]; exact h00
  have q4 : ((n : Int) == 0) = false := by rw [beq_eq_false_iff_ne]; omega
  have HN0 := Lib.hid (show 0 < l.length by rw [HL.out]; omega)
  clear h00
  go_enter Tryz.func4, Tryz.ntmps4
  go_wp2
  go_loopw [3, 21] (fun v3 v21 wr => ∃ (k : Nat) (s : ByteArray), k ≤ n ∧ v21 = .int .i64 k ∧ v3 = .string s ∧ Hid (bl s = opsT (l.take k) ∧ ∀ o ∈ l.take k, opRightB o = true ∧ o.kind ≤ 2) ∧ s.size ≤ 12 * k ∧ Below w.heap.size w wr) (fun _ v21 _ => n - (intOf v21).toNat)
  case atStart => exact ⟨0, ⟨#[]⟩, Nat.zero_le _, rfl, rfl, Lib.hid ⟨rfl, by simp⟩, Nat.zero_le _, Below.refl _ _⟩
  case round =>
    obtain ⟨k, s, hk, rfl, rfl, HS, hz, hbw⟩ := hrel
    have hsz := hbw.size
    by_cases hlt : k < n
    · obtain ⟨ad, o, rfl, _, hy, hc0, hc1⟩ := (h.below hbw).at_ hlt
      have hk1 : (k : Int) < (n : Int) := by omega
      have HTK := Lib.hid (show l.take (k + 1) = l.take k ++ [o] from take_step hy)
      obtain ⟨kd, x⟩ := o
      dsimp only at hc0 hc1
      have hb1 := (Below.refl wr.heap.size wr).alloc (Nat.le_refl _) (.cells #[.int .i64 kd, .int .i64 x] 24)
      have hbw1 := hbw.trans (hb1.mono hsz)
      have HTW := Lib.hid (HW.out.below hbw1)
      clear hy hb1
      cases hro : opRightB ⟨kd, x⟩ with
      | false =>
        have HRO := Lib.hid hro
        clear hro
        go_wp2_with fail
        refine (ptRight_any kd x _).mono ?_
        rintro e w2 ⟨rfl, hb2⟩
        rw [HRO.out]
        have hbw2 := hbw1.trans (hb2.mono hbw1.size)
        go_wp2
        go_ret
        exact ⟨rfl, hbw2⟩
      | true =>
        have HRO := Lib.hid hro
        clear hro
        by_cases hkd : kd ≤ 2
        · have hkd' : ¬ (2 : Int) < kd := by omega
          go_wp2_with fail
          refine (ptRight_any kd x _).mono ?_
          rintro e w2 ⟨rfl, hb2⟩
          rw [HRO.out]
          have hq0 : w2.cell? ⟨wr.heap.size, 0, none⟩ = some (.int .i64 kd) := (hb2.cell (p := ⟨wr.heap.size, 0, none⟩) (by simp)).trans (box_cell2 wr #[.int .i64 kd, .int .i64 x] 24 0)
          have hq1 : w2.cell? ⟨wr.heap.size, 1, none⟩ = some (.int .i64 x) := (hb2.cell (p := ⟨wr.heap.size, 1, none⟩) (by simp)).trans (box_cell2 wr #[.int .i64 kd, .int .i64 x] 24 1)
          have hbw2 := hbw1.trans (hb2.mono hbw1.size)
          have HTW2 := Lib.hid (HTW.out.below hb2)
          have hqz : (⟨(opSeq ⟨kd, x⟩).toArray⟩ : ByteArray).size ≤ 12 := by rw [mk_size]; exact opSeq_len HRO.out
          obtain ⟨q, hq⟩ : ∃ q : ByteArray, q = ⟨(opSeq ⟨kd, x⟩).toArray⟩ := ⟨_, rfl⟩
          rw [← hq] at hqz
          have HQ := Lib.hid hq
          have hcat : ¬ (9223372036854775807 < s.size + q.size) := by omega
          have HKD := Lib.hid hkd
          have HST := Lib.hid (show bl (s ++ q) = opsT (l.take (k + 1)) ∧ ∀ o ∈ l.take (k + 1), opRightB o = true ∧ o.kind ≤ 2 by
            rw [HTK.out]
            refine ⟨?_, fun o ho => ?_⟩
            · rw [bl_app, HS.out.1, HQ.out, bl_mk]
              simp [opsT]
            · rcases List.mem_append.1 ho with ho | ho
              · exact HS.out.2 o ho
              · rw [List.mem_singleton.1 ho]
                exact ⟨HRO.out, HKD.out⟩)
          clear hb2 hbw1 hq HTW hbw hc0 hc1 hkd
          go_wp2_with fail
          refine (ptSeq_any kd x _ HRO.out HTW2.out).mono ?_
          rintro e w3 ⟨rfl, hb3⟩
          rw [← HQ.out]
          have hbw3 := hbw2.trans (hb3.mono hbw2.size)
          clear hb3 hbw2 hq0 hq1
          go_wp2
          go_roundw
          case rel => exact ⟨k + 1, s ++ q, by omega, by go_num, rfl, HST, by rw [size_app]; omega, hbw3⟩
          case measure => simp [intOf]; omega
        · have hkd' : (2 : Int) < kd := by omega
          go_wp2_with fail
          refine (ptRight_any kd x _).mono ?_
          rintro e w2 ⟨rfl, hb2⟩
          rw [HRO.out]
          have hq0 : w2.cell? ⟨wr.heap.size, 0, none⟩ = some (.int .i64 kd) := (hb2.cell (p := ⟨wr.heap.size, 0, none⟩) (by simp)).trans (box_cell2 wr #[.int .i64 kd, .int .i64 x] 24 0)
          have hbw2 := hbw1.trans (hb2.mono hbw1.size)
          go_wp2
          go_ret
          exact ⟨rfl, hbw2⟩
    · have hkn : k = n := by omega
      subst hkn
      have HSF := Lib.hid (show s = ⟨(opsT l).toArray⟩ ∧ ∀ o ∈ l, opRightB o = true ∧ o.kind ≤ 2 by
        have hlt2 : l.take k = l := List.take_of_length_le (by rw [HL.out]; exact Nat.le_refl _)
        have h1 := HS.out
        rw [hlt2] at h1
        exact ⟨bl_ext (by rw [h1.1, bl_mk]), h1.2⟩)
      have hz480 : s.size ≤ 480 := by omega
      have hrl := runes_length s
      have hrs : runes s = chars (opsT l) := by rw [HSF.out.1]; exact runes_ops l
      have hpos : 0 < (runes s).length := by rw [hrs]; unfold chars; rw [List.length_map]; exact opsT_pos HN0.out
      have hne : runes s ≠ [] := fun e => by rw [e] at hpos; simp at hpos
      have hlast := charStates_last hne
      have hall := ops_all (fun o ho => (HSF.out.2 o ho).1)
      rw [← hrs] at hall
      rw [hall] at hlast
      obtain ⟨codes, hcd⟩ : ∃ codes, codes = l.foldl opP [] := ⟨_, rfl⟩
      rw [← hcd] at hlast
      have hsh : Shape codes := by rw [hcd]; exact ops_shape (fun o ho => (HSF.out.2 o ho).1)
      have hsm : Same codes (afterL l) := by rw [hcd]; exact ops_same HSF.out.2
      have hcl : codes.length ≤ 40 := by
        rw [hcd]
        have := ops_len l []
        rw [HL.out] at this
        simp at this
        omega
      obtain ⟨nr, hnr⟩ : ∃ nr, nr = (runes s).length := ⟨_, rfl⟩
      rw [← hnr] at hlast hpos hrl
      have HNR := Lib.hid hnr
      have HLAST := Lib.hid hlast
      have HSH := Lib.hid hsh
      have HSM := Lib.hid hsm
      clear hnr hlast hsh hsm hcd hall hne hrs
      go_wp2_with fail
      refine (ptSteps_any s _ (by omega)).mono ?_
      rintro e w4 ⟨v4, rfl, hown4, hb4⟩
      have hbw4 := hbw.trans (hb4.mono hsz)
      have HT4 := Lib.hid (HT.out.then hbw4).now.stay
      have HO4 := Lib.hid hown4
      clear hown4 hb4 hbw
      go_wp2_with fail
      refine (parseChars_any s v4 _ _ HO4.out (by omega) HT4.out).mono ?_
      rintro e w5 ⟨v5, rfl, hst, hb5⟩
      rw [← HNR.out] at hst
      have hbw5 := hbw4.trans (hb5.mono hbw4.size)
      obtain ⟨ad5, c5, st, A', d', rfl, hx, e0, e1, e2, e3, e4, hrow⟩ := hst.own (show nr - 1 < nr by omega)
      have hx2 := HLAST.out
      rw [hx] at hx2
      injection hx2 with hx2
      subst hx2
      dsimp only [stOf] at e0 e1 e2 e3 e4 hrow
      obtain ⟨cl, hcle⟩ : ∃ cl, cl = codes.length := ⟨_, rfl⟩
      obtain ⟨q, hq⟩ : ∃ q, q = seqB codes := ⟨_, rfl⟩
      rw [← hcle] at e1 e2 hrow hcl
      rw [← hq] at e3
      generalize decide (0 < cl) = ob at e1
      have HQ := Lib.hid hq
      have p1 : (nr == 0) = false := by rw [beq_eq_false_iff_ne]; omega
      have p2 : ((nr : Int) == 0) = false := by rw [beq_eq_false_iff_ne]; omega
      have p3 : wrap64 ((nr : Int) - 1) = (nr : Int) - 1 := IntWalk.wrap64_in _ ⟨by omega, by omega⟩
      have p4 : (0 : Int) ≤ (nr : Int) - 1 := by omega
      have p5 : (nr : Int) - 1 < (nr : Int) := by omega
      obtain ⟨K, hK⟩ : ∃ K, K = w5.heap.size := ⟨_, rfl⟩
      obtain ⟨w6, hw6⟩ : ∃ w6, w6 = w5.alloc (.cells #[.bool false, .bool ob, .slice A' cl d', .string q, .string ⟨#[]⟩] 29) := ⟨_, rfl⟩
      have hb6 : Below w.heap.size w w6 := by rw [hw6]; exact hbw5.alloc hbw5.size _
      have hf6 : w6.heap[K]? = some (.cells #[.bool false, .bool ob, .slice A' cl d', .string q, .string ⟨#[]⟩] 29 (0, 0)) := by rw [hw6, hK]; exact heap_alloc_new w5 _
      have hK6 : K < w6.heap.size := (Array.getElem?_eq_some_iff.1 hf6).1
      have hrow6 : w6.ownsRow w4.heap.size 3 1 (.slice A' cl d') cl (codes.map (Value.int .i64)) := by rw [hw6]; exact hrow.alloc _
      have hi6 : IntsAt w6 w6.heap.size A' cl d' codes := by
        obtain ⟨A9, c9, hv9, hi9⟩ := own_rd hrow6
        injection hv9 with z1 z2 z3
        subst z1 z3
        exact hi9
      have hop6 : OpsAt w6 w6.heap.size A k c l := (h.below hb6).more hb6.size
      have htw6 : TabW w6 := HW.out.below hb6
      have hq2 : w6.cell? ⟨K, 2, none⟩ = some (.slice A' cl d') := cell_of_row w6 K 2 _ _ _ hf6
      have hq3 : w6.cell? ⟨K, 3, none⟩ = some (.string q) := cell_of_row w6 K 3 _ _ _ hf6
      have hb66 : Below w6.heap.size w6 w6 := Below.refl _ _
      have HW6 := Lib.hid hw6
      have HKK := Lib.hid hK
      have HI0 := Lib.hid (show IntsAt w6.drew w6.drew.heap.size A' cl d' codes from Rd.drew hi6)
      have HOP0 := Lib.hid (show OpsAt w6.drew w6.drew.heap.size A k c l from ⟨Rd.drew hop6.1, hop6.2⟩)
      have HTW0 := Lib.hid (show TabW w6.drew from htw6)
      have HAL := Lib.hid (show alikeB codes (afterL l) = true from HSM.out.alike)
      have HPOS := Lib.hid (show ∀ x ∈ codes, 0 ≤ x ∧ x < 1000 from fun x hx => by have := attr_range (HSM.out.2 x hx); omega)
      have HSEQ := Lib.hid (show (⟨(seqL codes).toArray⟩ : ByteArray) = q by rw [HQ.out, ← seqP_attr HPOS.out]; rfl)
      clear hst hb5 hx hcle hq hf6 hrow hrow6 hbw5 hbw4 hK hw6
      clear hi6 hop6 htw6
      go_upto_region 17 with (fail)
      rw [← HW6.out, ← HKK.out]
      go_region_held3 (fun w' => w'.cell? ⟨K, 2, none⟩ = some (.slice A' cl d') ∧ w'.cell? ⟨K, 3, none⟩ = some (.string q) ∧ Below w6.heap.size w6 w')
        (first | exact ⟨hq2, hq3, hb66.drew⟩ | exact ⟨ha2, ha3, hbA⟩ | exact ⟨hc2, hc3, hbC⟩ | exact ⟨hd2, hd3, hbD⟩)
        (first
          | (go_at_call 14; refine (ptRising_any A' cl d' codes _ HI0.out HSH.out.rising (by omega)).mono ?_; rintro e wa ⟨rfl, hba⟩; have hia := Lib.hid ((HI0.out.below hba).more hba.size); have hopa := Lib.hid ((HOP0.out.below hba).more hba.size); have htwa := Lib.hid (HTW0.out.below hba); have ha2 := (hba.cell (p := ⟨K, 2, none⟩) hK6).trans hq2; have ha3 := (hba.cell (p := ⟨K, 3, none⟩) hK6).trans hq3; have hbA := hb66.drew.trans hba; have hKa := Nat.lt_of_lt_of_le hK6 hba.size; clear hba)
          | (go_at_call 15; refine (ptAfter_any A k c l _ hopa.out (by omega) HSF.out.2).mono ?_; rintro e wc ⟨vc, rfl, hownc, hbc⟩; obtain ⟨Ac, cc, rfl, hic⟩ := hownc.rd; have hic2 := Lib.hid hic; have hiac := Lib.hid ((hia.out.below hbc).more hbc.size); have htwc := Lib.hid (htwa.out.below hbc); have hc2 := (hbc.cell (p := ⟨K, 2, none⟩) hKa).trans ha2; have hc3 := (hbc.cell (p := ⟨K, 3, none⟩) hKa).trans ha3; have hbC := hbA.trans (hbc.mono hbA.size); have hKc := Nat.lt_of_lt_of_le hKa hbc.size; clear hbc hownc hic)
          | (go_at_call 10; refine (alike_any A' Ac cl d' _ cc codes (afterL l) _ _ hiac.out hic2.out).mono ?_; rintro e w9 ⟨rfl, rfl⟩; rw [HAL.out])
          | (go_at_call 16; refine (sequence_any A' cl d' codes _ hiac.out (by omega) HPOS.out htwc.out).mono ?_; rintro e wd ⟨rfl, hbd⟩; rw [HSEQ.out]; have hd2 := (hbd.cell (p := ⟨K, 2, none⟩) hKc).trans hc2; have hd3 := (hbd.cell (p := ⟨K, 3, none⟩) hKc).trans hc3; have hbD := hbC.trans (hbd.mono hbC.size); clear hbd))
      have hbF := hb6.trans (hbD.mono hb6.size)
      go_wp2
      go_ret
      exact ⟨rfl, hbF⟩
end Go.Proofs.YtlclmpiocbkabaaGreatDoor
