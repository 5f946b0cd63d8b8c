/- Walk of laws.FnMachineAgain: it answers true and writes nothing that was there. Condition: the library's tables as they are laid. -/
import Derived.Test.YtlclmpiocbkabaaGreatDoorOpsAll
namespace Go.Proofs.YtlclmpiocbkabaaGreatDoor
open Go.RowKit
set_option linter.unusedVariables false
set_option linter.unusedSimpArgs false

theorem seqB_nil : seqB [] = ⟨#[]⟩ := rfl
/-- What a new parser knows that is given the sequence that is told. -/
theorem last_again {codes : List Int} (h : Shape codes) (hl : codes.length ≤ 100) : (lastOf (runes (seqB codes))).codes = codes ∧ (lastOf (runes (seqB codes))).seq = seqB codes := by
  have hr : runes (seqB codes) = chars (seqP codes) := runes_mk _ (seqP_ascii h.pos)
  by_cases h0 : codes = []
  · subst h0
    have e : runes (seqB []) = [] := runes_empty
    rw [e]
    exact ⟨rfl, rfl⟩
  · have hne : runes (seqB codes) ≠ [] := by
      rw [hr, seqP, if_neg h0]
      simp [chars]
    unfold lastOf
    rw [if_neg hne, hr, seq_again h hl]
    exact ⟨rfl, rfl⟩

set_option maxRecDepth 100000 in
set_option maxHeartbeats 8000000 in
theorem machAgain_any (A : Option Addr) (n c : Nat) (l : List Op) (w : World) (h : OpsAt w w.heap.size A n c l) (hT : Tabs w ∧ TabW w) :
    Calls Tryz.prog 3 #[.slice A n c] w fun e w' => e = .returned (.bool true) ∧ Below w.heap.size w w' := by
  have HT := Lib.hid hT.1.stay
  have HW := Lib.hid hT.2
  have HL := Lib.hid h.2
  have hm := h.small
  clear hT
  by_cases h31 : 2147483647 < n
  · have q1 : (2147483647 : Int) < (n : Int) := by omega
    go_enter Tryz.func3, Tryz.ntmps3
    go_wp2
    go_ret
    exact ⟨rfl, Below.refl _ _⟩
  have q1 : ¬ (2147483647 : Int) < (n : Int) := by omega
  have h0 : n ≤ 2147483647 := by omega
  clear h31
  go_enter Tryz.func3, Tryz.ntmps3
  go_wp2
  go_loopw [3, 15] (fun v3 v15 wr => ∃ (k : Nat) (s : ByteArray), k ≤ n ∧ v15 = .int .i64 k ∧ v3 = .string s ∧ Hid (bl s = opsT (l.take k) ∧ ∀ o ∈ l.take k, opRightB o = true) ∧ s.size ≤ 12 * k ∧ Below w.heap.size w wr) (fun _ v15 _ => n - (intOf v15).toNat)
  case atStart => exact ⟨0, ⟨#[]⟩, Nat.zero_le _, rfl, rfl, Lib.hid ⟨rfl, by simp⟩, Nat.zero_le _, Below.refl _ _⟩
  case round =>
    obtain ⟨k, s, hk, rfl, rfl, HS, hz, hbw⟩ := hrel
    have hsz := hbw.size
    by_cases hlt : k < n
    · obtain ⟨ad, o, rfl, _, hy, hc0, hc1⟩ := (h.below hbw).at_ hlt
      have hk1 : (k : Int) < (n : Int) := by omega
      have HTK := Lib.hid (show l.take (k + 1) = l.take k ++ [o] from take_step hy)
      obtain ⟨kd, x⟩ := o
      dsimp only at hc0 hc1
      have hb1 := (Below.refl wr.heap.size wr).alloc (Nat.le_refl _) (.cells #[.int .i64 kd, .int .i64 x] 24)
      have hbw1 := hbw.trans (hb1.mono hsz)
      have HTW := Lib.hid (HW.out.below hbw1)
      clear hy hb1
      cases hro : opRightB ⟨kd, x⟩ with
      | false =>
        have HRO := Lib.hid hro
        clear hro
        go_wp2_with fail
        refine (ptRight_any kd x _).mono ?_
        rintro e w2 ⟨rfl, hb2⟩
        rw [HRO.out]
        have hbw2 := hbw1.trans (hb2.mono hbw1.size)
        go_wp2
        go_ret
        exact ⟨rfl, hbw2⟩
      | true =>
        have HRO := Lib.hid hro
        clear hro
        go_wp2_with fail
        refine (ptRight_any kd x _).mono ?_
        rintro e w2 ⟨rfl, hb2⟩
        rw [HRO.out]
        have hq0 : w2.cell? ⟨wr.heap.size, 0, none⟩ = some (.int .i64 kd) := (hb2.cell (p := ⟨wr.heap.size, 0, none⟩) (by simp)).trans (box_cell2 wr #[.int .i64 kd, .int .i64 x] 24 0)
        have hq1 : w2.cell? ⟨wr.heap.size, 1, none⟩ = some (.int .i64 x) := (hb2.cell (p := ⟨wr.heap.size, 1, none⟩) (by simp)).trans (box_cell2 wr #[.int .i64 kd, .int .i64 x] 24 1)
        have hbw2 := hbw1.trans (hb2.mono hbw1.size)
        have HTW2 := Lib.hid (HTW.out.below hb2)
        have hqz : (⟨(opSeq ⟨kd, x⟩).toArray⟩ : ByteArray).size ≤ 12 := by rw [mk_size]; exact opSeq_len HRO.out
        obtain ⟨q, hq⟩ : ∃ q : ByteArray, q = ⟨(opSeq ⟨kd, x⟩).toArray⟩ := ⟨_, rfl⟩
        rw [← hq] at hqz
        have HQ := Lib.hid hq
        have hcat : ¬ (9223372036854775807 < s.size + q.size) := by omega
        have HST := Lib.hid (show bl (s ++ q) = opsT (l.take (k + 1)) ∧ ∀ o ∈ l.take (k + 1), opRightB o = true by
          rw [HTK.out]
          refine ⟨?_, fun o ho => ?_⟩
          · rw [bl_app, HS.out.1, HQ.out, bl_mk]
            simp [opsT]
          · rcases List.mem_append.1 ho with ho | ho
            · exact HS.out.2 o ho
            · rw [List.mem_singleton.1 ho]
              exact HRO.out)
        clear hb2 hbw1 hq HTW hbw hc0 hc1
        go_wp2_with fail
        refine (ptSeq_any kd x _ HRO.out HTW2.out).mono ?_
        rintro e w3 ⟨rfl, hb3⟩
        rw [← HQ.out]
        have hbw3 := hbw2.trans (hb3.mono hbw2.size)
        clear hb3 hbw2 hq0 hq1
        go_wp2
        go_roundw
        case rel => exact ⟨k + 1, s ++ q, by omega, by go_num, rfl, HST, by rw [size_app]; omega, hbw3⟩
        case measure => simp [intOf]; omega
    · have hkn : k = n := by omega
      subst hkn
      have HSF := Lib.hid (show s = ⟨(opsT l).toArray⟩ ∧ ∀ o ∈ l, opRightB o = true by
        have hlt2 : l.take k = l := List.take_of_length_le (by rw [HL.out]; exact Nat.le_refl _)
        have h1 := HS.out
        rw [hlt2] at h1
        exact ⟨bl_ext (by rw [h1.1, bl_mk]), h1.2⟩)
      by_cases h40 : 40 < k
      · have q2 : (40 : Int) < (k : Int) := by omega
        go_wp2
        go_ret
        exact ⟨rfl, hbw⟩
      have q2 : ¬ (40 : Int) < (k : Int) := by omega
      have hk40 : k ≤ 40 := by omega
      clear h40
      by_cases h00 : k = 0
      · have q3 : (k == 0) = true := by rw [h00]; rfl
        have q4 : ((k : Int) == 0) = true := by rw [h00]; rfl
        clear h00
        go_wp2
        go_ret
        exact ⟨rfl, hbw⟩
      have q3 : (k == 0) = false := by rw [beq_eq_false_iff_ne]; exact h00
      have q4 : ((k : Int) == 0) = false := by rw [beq_eq_false_iff_ne]; omega
      have hrs : runes s = chars (opsT l) := by rw [HSF.out.1]; exact runes_ops l
      have hne : runes s ≠ [] := fun e => by
        have hpos : 0 < (opsT l).length := opsT_pos (by rw [HL.out]; omega)
        have h2 : (runes s).length = (opsT l).length := by rw [hrs]; unfold chars; rw [List.length_map]
        rw [e] at h2
        simp at h2
        omega
      have hall := ops_all HSF.out.2
      rw [← hrs] at hall
      obtain ⟨codes, hcd⟩ : ∃ codes, codes = l.foldl opP [] := ⟨_, rfl⟩
      rw [← hcd] at hall
      have hsh : Shape codes := by rw [hcd]; exact ops_shape HSF.out.2
      have hcl : codes.length ≤ 40 := by
        rw [hcd]
        have := ops_len l []
        rw [HL.out] at this
        simp at this
        omega
      have HX := Lib.hid (show lastOf (runes s) = stOf ⟨codes, false, 0, []⟩ ⟨#[]⟩ by unfold lastOf; rw [if_neg hne, hall])
      have hag := last_again hsh (by omega)
      have HAG := Lib.hid hag
      obtain ⟨q, hq⟩ : ∃ q, q = seqB codes := ⟨_, rfl⟩
      have hqz : q.size ≤ 700 := by
        rw [hq]
        unfold seqB
        rw [mk_size]
        have := seqP_len hsh.kind
        omega
      have HQ := Lib.hid hq
      obtain ⟨cl, hcle⟩ : ∃ cl, cl = codes.length := ⟨_, rfl⟩
      have HCL := Lib.hid hcle
      have HZ := Lib.hid hz
      have HSH := Lib.hid hsh
      have HQZ := Lib.hid hqz
      have hz500 : s.size ≤ 500 := by omega
      have HZ5 := Lib.hid hz500
      clear hrs hne hall hcd hsh hcl hag hq hqz hz hz500
      go_wp2_with fail
      refine (ptLast_any s _ (by have := HZ5.out; omega) (HT.out.then hbw).now.stay).mono ?_
      rintro e w4 ⟨A4, c4, rfl, hi4, hb4⟩
      rw [HX.out] at hi4 ⊢
      dsimp only [stAgg, stOf] at hi4 ⊢
      rw [← HQ.out]
      rw [← hcle] at hi4 ⊢
      generalize decide (0 < cl) = ob
      have hbw4 := hbw.trans (hb4.mono hsz)
      clear hb4 hcle hbw
      obtain ⟨w5, hw5⟩ : ∃ w5, w5 = w4.alloc (.cells #[.bool false, .bool ob, .slice A4 cl c4, .string q, .string ⟨#[]⟩] 29) := ⟨_, rfl⟩
      have hf5 : w5.heap[w4.heap.size]? = some (.cells #[.bool false, .bool ob, .slice A4 cl c4, .string q, .string ⟨#[]⟩] 29 (0, 0)) := by rw [hw5]; exact heap_alloc_new w4 _
      have hb5 : Below w4.heap.size w4 w5 := by rw [hw5]; exact (Below.refl _ _).alloc (Nat.le_refl _) _
      have hi5 := Lib.hid (((show IntsAt w4 w4.heap.size A4 cl c4 codes from hi4).below hb5).more hb5.size)
      have hbw5 := hbw4.trans (hb5.mono hbw4.size)
      obtain ⟨K4, hK4⟩ : ∃ K4, K4 = w4.heap.size := ⟨_, rfl⟩
      have hf5' : w5.heap[K4]? = some (.cells #[.bool false, .bool ob, .slice A4 cl c4, .string q, .string ⟨#[]⟩] 29 (0, 0)) := by rw [hK4]; exact hf5
      have hlt5 : K4 < w5.heap.size := (Array.getElem?_eq_some_iff.1 hf5').1
      have hx3 : w5.cell? ⟨K4, 3, none⟩ = some (.string q) := cell_of_row w5 K4 3 _ _ _ hf5'
      have hx2 : w5.cell? ⟨K4, 2, none⟩ = some (.slice A4 cl c4) := cell_of_row w5 K4 2 _ _ _ hf5'
      have HW5 := Lib.hid hw5
      have HK4 := Lib.hid hK4
      have HTB := Lib.hid (HT.out.then hbw5).now.stay
      clear hf5 hb5 hi4 hbw4 hw5 hK4 hf5'
      go_upto_region 14 with (fail)
      rw [← HW5.out, ← HK4.out]
      go_wp2_with fail
      refine (ptLast_any q _ (by have := HQZ.out; omega) HTB.out).mono ?_
      rintro e w6 ⟨A6, c6, rfl, hi6, hb6⟩
      obtain ⟨y, hy⟩ : ∃ y, y = lastOf (runes q) := ⟨_, rfl⟩
      have hyc : y.codes = codes := by rw [hy, HQ.out]; exact HAG.out.1
      have hys : y.seq = q := by rw [hy]; conv => lhs; rw [HQ.out]
                                 rw [HAG.out.2, HQ.out]
      rw [← hy] at hi6 ⊢
      obtain ⟨y1, y2, y3, y4, y5⟩ := y
      dsimp only [stAgg] at hyc hys hi6 ⊢
      subst hyc hys
      have hbw6 := hbw5.trans (hb6.mono hbw5.size)
      obtain ⟨w7, hw7⟩ : ∃ w7, w7 = w6.alloc (.cells #[.bool y1, .bool y2, .slice A6 y3.length c6, .string y4, .string y5] 29) := ⟨_, rfl⟩
      obtain ⟨K6, hK6⟩ : ∃ K6, K6 = w6.heap.size := ⟨_, rfl⟩
      have hf7 : w7.heap[K6]? = some (.cells #[.bool y1, .bool y2, .slice A6 y3.length c6, .string y4, .string y5] 29 (0, 0)) := by rw [hw7, hK6]; exact heap_alloc_new w6 _
      have hb7 : Below w6.heap.size w6 w7 := by rw [hw7]; exact (Below.refl _ _).alloc (Nat.le_refl _) _
      have hbw7 := hbw6.trans (hb7.mono hbw6.size)
      have hb57 := hb6.trans (hb7.mono hb6.size)
      have gx2 : w7.cell? ⟨K4, 2, none⟩ = some (.slice A4 cl c4) := (hb57.cell (p := ⟨K4, 2, none⟩) hlt5).trans hx2
      have gx3 : w7.cell? ⟨K4, 3, none⟩ = some (.string y4) := (hb57.cell (p := ⟨K4, 3, none⟩) hlt5).trans hx3
      have gy2 : w7.cell? ⟨K6, 2, none⟩ = some (.slice A6 y3.length c6) := cell_of_row w7 K6 2 _ _ _ hf7
      have gy3 : w7.cell? ⟨K6, 3, none⟩ = some (.string y4) := cell_of_row w7 K6 3 _ _ _ hf7
      have gi5 := Lib.hid ((hi5.out.below hb57).more hb57.size)
      have gi6 := Lib.hid (((show IntsAt w6 w6.heap.size A6 y3.length c6 y3 from hi6).below hb7).more hb7.size)
      have HAL := Lib.hid (alike_refl y3)
      have HT7 := Lib.hid (HT.out.then hbw7).now.stay
      have HW7 := Lib.hid hw7
      have HK6 := Lib.hid hK6
      have HN1 := Lib.hid (show (runes ⟨#[97]⟩).length = 1 by rw [show (⟨#[97]⟩ : ByteArray) = ⟨([97] : List UInt8).toArray⟩ from rfl, runes_mk [97] (by decide)]; rfl)
      clear hf7 hb7 hb57 hb6 hi6 hx2 hx3 hw7 hK6 hbw6 hbw5 hlt5
      go_upto_region 15 with (fail)
      rw [← HW7.out, ← HK6.out]
      go_wp2_with fail
      refine (alike_any A4 A6 cl c4 _ c6 y3 y3 _ _ gi5.out gi6.out).mono ?_
      rintro e w8 ⟨rfl, rfl⟩
      rw [HAL.out]
      go_wp2_with fail
      refine (ptStates_any ⟨#[97]⟩ _ (by decide) HT7.out).mono ?_
      rintro e w9 ⟨v9, rfl, hst9, hb9⟩
      rw [HN1.out] at hst9
      obtain ⟨A9, c9, rfl, _, _⟩ := hst9.shape
      have hbF := hbw7.trans (hb9.mono hbw7.size)
      clear hst9 hb9 hbw7
      go_wp2
      go_ret
      exact ⟨rfl, hbF⟩
end Go.Proofs.YtlclmpiocbkabaaGreatDoor
