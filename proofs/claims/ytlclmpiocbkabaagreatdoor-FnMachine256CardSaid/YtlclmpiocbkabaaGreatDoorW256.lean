/- Walks of laws.FnMachine256 and of what it calls: it answers true and writes nothing that was there. Condition: the library's tables as they are laid. -/
import Derived.Test.YtlclmpiocbkabaaGreatDoorOpsAll
import Derived.Deep.RegionHeld3
namespace Go.Proofs.YtlclmpiocbkabaaGreatDoor
open Go.RowKit
set_option linter.unusedVariables false
set_option linter.unusedSimpArgs false

set_option maxHeartbeats 4000000 in
theorem escFg_any (i : Int) (w : World) (h : 0 ≤ i ∧ i ≤ 255) :
    Calls Tryz.prog 34 #[.int .i64 (1000 + i)] w fun e w' => e = .returned (.string ⟨(opSeq ⟨3, i⟩).toArray⟩) ∧ Below w.heap.size w w' := by
  obtain ⟨n, rfl⟩ := Int.eq_ofNat_of_zero_le h.1
  have hn : n ≤ 255 := by omega
  have hz : (⟨(decL n).toArray⟩ : ByteArray).size ≤ 4 := by rw [mk_size]; exact decL_len n (by omega)
  obtain ⟨q, hq⟩ : ∃ q : ByteArray, q = ⟨(decL n).toArray⟩ := ⟨_, rfl⟩
  rw [← hq] at hz
  have HQ := Lib.hid hq
  have HS := Lib.hid (show (⟨#[27, 91, 51, 56, 59, 53, 59]⟩ : ByteArray) ++ q ++ ⟨#[109]⟩ = ⟨(opSeq ⟨3, (n : Int)⟩).toArray⟩ by
    apply bl_ext
    rw [bl_app, bl_app, bl_mk, HQ.out, bl_mk]
    rfl)
  have c1 : ¬ (9223372036854775807 < (⟨#[27, 91, 51, 56, 59, 53, 59]⟩ : ByteArray).size + q.size) := by show ¬ (9223372036854775807 < 7 + q.size); omega
  have c2 : ¬ (9223372036854775807 < ((⟨#[27, 91, 51, 56, 59, 53, 59]⟩ : ByteArray) ++ q).size + (⟨#[109]⟩ : ByteArray).size) := by rw [size_app]; show ¬ (9223372036854775807 < 7 + q.size + 1); omega
  obtain ⟨c, hc⟩ : ∃ c : Int, c = 1000 + (n : Int) := ⟨_, rfl⟩
  rw [← hc]
  have b1 : (1000 : Int) ≤ c := by omega
  have b2 : c < 1256 := by omega
  have HC := Lib.hid (show c - 1000 = (n : Int) by omega)
  clear hc hq h
  go_enter Tryz.func34, Tryz.ntmps34
  go_wp2_with fail
  rw [HC.out]
  refine (itoa_any n _ (by omega)).mono ?_
  rintro e w2 ⟨rfl, hb2⟩
  rw [← HQ.out]
  go_wp2
  go_ret
  exact ⟨ret_str HS.out, hb2⟩
set_option maxHeartbeats 2000000 in
theorem escFgText_any (i : Int) (w : World) (h : 0 ≤ i ∧ i ≤ 255) :
    Calls Tryz.prog 20 #[.int .i64 (1000 + i)] w fun e w' => e = .returned (.string ⟨(opSeq ⟨3, i⟩).toArray⟩) ∧ Below w.heap.size w w' := by
  obtain ⟨c, hc⟩ : ∃ c : Int, c = 1000 + i := ⟨_, rfl⟩
  have HC := Lib.hid hc
  rw [← hc]
  clear hc
  go_enter Tryz.func20, Tryz.ntmps20
  go_wp2_with fail
  rw [HC.out]
  refine (escFg_any i _ h).mono ?_
  rintro e w2 ⟨rfl, hb2⟩
  go_wp2
  go_ret
  exact ⟨rfl, hb2⟩
set_option maxHeartbeats 2000000 in
theorem escFgNum_any (i : Int) (w : World) (h : 0 ≤ i ∧ i ≤ 255) :
    Calls Tryz.prog 32 #[.int .i64 i] w fun e w' => e = .returned (.int .i64 (1000 + i)) ∧ w = w' := by
  have h1 : ¬ i < 0 := by omega
  have h2 : ¬ (255 : Int) < i := by omega
  have h3 : 0 ≤ i := h.1
  have h4 : i ≤ 255 := h.2
  clear h
  go_enter Tryz.func32, Tryz.ntmps32
  go_wp2
  go_ret
  exact ⟨rfl, rfl⟩
set_option maxHeartbeats 2000000 in
theorem escFgIndex_any (i : Int) (w : World) (h : 0 ≤ i ∧ i ≤ 255) :
    Calls Tryz.prog 18 #[.int .i64 i] w fun e w' => e = .returned (.int .i64 (1000 + i)) ∧ w = w' := by
  go_enter Tryz.func18, Tryz.ntmps18
  go_wp2_with fail
  refine (escFgNum_any i _ h).mono ?_
  rintro e w2 ⟨rfl, rfl⟩
  go_wp2
  go_ret
  exact ⟨rfl, rfl⟩

set_option maxHeartbeats 4000000 in
theorem escBg_any (i : Int) (w : World) (h : 0 ≤ i ∧ i ≤ 255) :
    Calls Tryz.prog 34 #[.int .i64 (2000 + i)] w fun e w' => e = .returned (.string ⟨(opSeq ⟨4, i⟩).toArray⟩) ∧ Below w.heap.size w w' := by
  obtain ⟨n, rfl⟩ := Int.eq_ofNat_of_zero_le h.1
  have hn : n ≤ 255 := by omega
  have hz : (⟨(decL n).toArray⟩ : ByteArray).size ≤ 4 := by rw [mk_size]; exact decL_len n (by omega)
  obtain ⟨q, hq⟩ : ∃ q : ByteArray, q = ⟨(decL n).toArray⟩ := ⟨_, rfl⟩
  rw [← hq] at hz
  have HQ := Lib.hid hq
  have HS := Lib.hid (show (⟨#[27, 91, 52, 56, 59, 53, 59]⟩ : ByteArray) ++ q ++ ⟨#[109]⟩ = ⟨(opSeq ⟨4, (n : Int)⟩).toArray⟩ by
    apply bl_ext
    rw [bl_app, bl_app, bl_mk, HQ.out, bl_mk]
    rfl)
  have c1 : ¬ (9223372036854775807 < (⟨#[27, 91, 52, 56, 59, 53, 59]⟩ : ByteArray).size + q.size) := by show ¬ (9223372036854775807 < 7 + q.size); omega
  have c2 : ¬ (9223372036854775807 < ((⟨#[27, 91, 52, 56, 59, 53, 59]⟩ : ByteArray) ++ q).size + (⟨#[109]⟩ : ByteArray).size) := by rw [size_app]; show ¬ (9223372036854775807 < 7 + q.size + 1); omega
  obtain ⟨c, hc⟩ : ∃ c : Int, c = 2000 + (n : Int) := ⟨_, rfl⟩
  rw [← hc]
  have b1 : (2000 : Int) ≤ c := by omega
  have b2 : c < 2256 := by omega
  have b3 : ¬ c < 1256 := by omega
  have b4 : (1000 : Int) ≤ c := by omega
  have HC := Lib.hid (show c - 2000 = (n : Int) by omega)
  clear hc hq h
  go_enter Tryz.func34, Tryz.ntmps34
  go_wp2_with fail
  rw [HC.out]
  refine (itoa_any n _ (by omega)).mono ?_
  rintro e w2 ⟨rfl, hb2⟩
  rw [← HQ.out]
  go_wp2
  go_ret
  exact ⟨ret_str HS.out, hb2⟩
set_option maxHeartbeats 2000000 in
theorem escBgText_any (i : Int) (w : World) (h : 0 ≤ i ∧ i ≤ 255) :
    Calls Tryz.prog 20 #[.int .i64 (2000 + i)] w fun e w' => e = .returned (.string ⟨(opSeq ⟨4, i⟩).toArray⟩) ∧ Below w.heap.size w w' := by
  obtain ⟨c, hc⟩ : ∃ c : Int, c = 2000 + i := ⟨_, rfl⟩
  have HC := Lib.hid hc
  rw [← hc]
  clear hc
  go_enter Tryz.func20, Tryz.ntmps20
  go_wp2_with fail
  rw [HC.out]
  refine (escBg_any i _ h).mono ?_
  rintro e w2 ⟨rfl, hb2⟩
  go_wp2
  go_ret
  exact ⟨rfl, hb2⟩
set_option maxHeartbeats 2000000 in
theorem escBgNum_any (i : Int) (w : World) (h : 0 ≤ i ∧ i ≤ 255) :
    Calls Tryz.prog 33 #[.int .i64 i] w fun e w' => e = .returned (.int .i64 (2000 + i)) ∧ w = w' := by
  have h1 : ¬ i < 0 := by omega
  have h2 : ¬ (255 : Int) < i := by omega
  have h3 : 0 ≤ i := h.1
  have h4 : i ≤ 255 := h.2
  clear h
  go_enter Tryz.func33, Tryz.ntmps33
  go_wp2
  go_ret
  exact ⟨rfl, rfl⟩
set_option maxHeartbeats 2000000 in
theorem escBgIndex_any (i : Int) (w : World) (h : 0 ≤ i ∧ i ≤ 255) :
    Calls Tryz.prog 19 #[.int .i64 i] w fun e w' => e = .returned (.int .i64 (2000 + i)) ∧ w = w' := by
  go_enter Tryz.func19, Tryz.ntmps19
  go_wp2_with fail
  refine (escBgNum_any i _ h).mono ?_
  rintro e w2 ⟨rfl, rfl⟩
  go_wp2
  go_ret
  exact ⟨rfl, rfl⟩

set_option maxRecDepth 100000 in
set_option maxHeartbeats 8000000 in
theorem mach2563_any (i : Int) (w : World) (h : 0 ≤ i ∧ i ≤ 255) (hT : Tabs w ∧ TabW w) :
    Calls Tryz.prog 6 #[.bool false, .int .u8 i] w fun e w' => e = .returned (.bool true) ∧ Below w.heap.size w w' := by
  have HT := Lib.hid hT.1.stay
  have HW := Lib.hid hT.2
  have hr : opRightB ⟨3, i⟩ = true := by
    simp [opRightB]
    omega
  have HR := Lib.hid hr
  obtain ⟨o1, o2⟩ := one_256 (o := ⟨3, i⟩) (by simp) h
  have hcode : opP [] ⟨3, i⟩ = [1000 + i] := by rw [o1]; rfl
  rw [hcode] at o2
  obtain ⟨u, hu⟩ : ∃ u : ByteArray, u = ⟨(opSeq ⟨3, i⟩).toArray⟩ := ⟨_, rfl⟩
  have huz : u.size ≤ 12 := by rw [hu, mk_size]; exact opSeq_len hr
  have hrs : runes u = chars (opSeq ⟨3, i⟩) := by rw [hu]; exact runes_mk _ (opSeq_ascii _)
  have hne : runes u ≠ [] := fun e => by
    have h2 : (runes u).length = (opSeq ⟨3, i⟩).length := by rw [hrs]; unfold chars; rw [List.length_map]
    have := opSeq_pos ⟨3, i⟩
    rw [e] at h2
    simp at h2
    omega
  have HX := Lib.hid (show lastOf (runes u) = ⟨false, true, [1000 + i], u, ⟨#[]⟩⟩ by
    unfold lastOf
    rw [if_neg hne, hrs, op_done (p := fresh) rfl hr]
    show stOf ⟨opP [] ⟨3, i⟩, false, 0, []⟩ ⟨#[]⟩ = _
    rw [hcode]
    unfold stOf seqB
    dsimp only
    rw [o2, ← hu]
    rfl)
  have HU := Lib.hid hu
  have HUZ := Lib.hid huz
  have H := Lib.hid h
  have h1 : 0 ≤ i := h.1
  have h2 : i ≤ 255 := h.2
  clear hT hr o1 o2 hcode huz hrs hne hu h
  have hf0 : (w.alloc (.cells #[.int .i64 3, .int .i64 i] 24)).heap[w.heap.size]? = some (.cells #[.int .i64 3, .int .i64 i] 24 (0, 0)) := heap_alloc_new w _
  have hfz := frozen_of_row _ w.heap.size 0 _ _ hf0
  have hbA := (Below.refl w.heap.size w).alloc (Nat.le_refl _) (.cells #[.int .i64 3, .int .i64 i] 24)
  have hf1 := hf0
  obtain ⟨wA, hwA⟩ : ∃ wA, wA = w.alloc (.cells #[.int .i64 3, .int .i64 i] 24) := ⟨_, rfl⟩
  have hbB : Below w.heap.size w wA := by rw [hwA]; exact hbA
  rw [← hwA] at hf1
  obtain ⟨K, hK⟩ : ∃ K, K = w.heap.size := ⟨_, rfl⟩
  rw [← hK] at hf1
  have hltA : K < wA.heap.size := (Array.getElem?_eq_some_iff.1 hf1).1
  have ha0 : wA.cell? ⟨K, 0, none⟩ = some (.int .i64 3) := cell_of_row wA K 0 _ _ _ hf1
  have ha1 : wA.cell? ⟨K, 1, none⟩ = some (.int .i64 i) := cell_of_row wA K 1 _ _ _ hf1
  have HWA := Lib.hid hwA
  have HK := Lib.hid hK
  have HTW := Lib.hid (HW.out.below hbB)
  clear hf0 hf1 hbA hwA hK
  go_enter Tryz.func6, Tryz.ntmps6
  go_wp2_with fail
  refine (escFgIndex_any i _ H.out).mono ?_
  rintro e w2 ⟨rfl, rfl⟩
  go_upto_region 5 with (fail)
  rw [← HWA.out, ← HK.out]
  go_wp2_with fail
  refine (ptSeq_any 3 i _ HR.out HTW.out).mono ?_
  rintro e w3 ⟨rfl, hb3⟩
  rw [← HU.out]
  have hbw3 := hbB.trans (hb3.mono hbB.size)
  have HT3 := Lib.hid (HT.out.then hbw3).now.stay
  go_wp2_with fail
  refine (ptLast_any u _ (by have := HUZ.out; omega) HT3.out).mono ?_
  rintro e w4 ⟨A4, c4, rfl, hi4, hb4⟩
  rw [HX.out]
  dsimp only [stAgg, List.length_cons, List.length_nil]
  have hbA4 := hb3.trans (hb4.mono hb3.size)
  obtain ⟨w5, hw5⟩ : ∃ w5, w5 = w4.alloc (.cells #[.bool false, .bool true, .slice A4 1 c4, .string u, .string ⟨#[]⟩] 29) := ⟨_, rfl⟩
  obtain ⟨K4, hK4⟩ : ∃ K4, K4 = w4.heap.size := ⟨_, rfl⟩
  have hf5 : w5.heap[K4]? = some (.cells #[.bool false, .bool true, .slice A4 1 c4, .string u, .string ⟨#[]⟩] 29 (0, 0)) := by rw [hw5, hK4]; exact heap_alloc_new w4 _
  have hbA5 : Below wA.heap.size wA w5 := by rw [hw5]; exact hbA4.alloc hbA4.size _
  have hbw5 := hbB.trans (hbA5.mono hbB.size)
  have g0 : w5.cell? ⟨K, 0, none⟩ = some (.int .i64 3) := (hbA5.cell (p := ⟨K, 0, none⟩) hltA).trans ha0
  have g1 : w5.cell? ⟨K, 1, none⟩ = some (.int .i64 i) := (hbA5.cell (p := ⟨K, 1, none⟩) hltA).trans ha1
  have g2 : w5.cell? ⟨K4, 1, none⟩ = some (.bool true) := cell_of_row w5 K4 1 _ _ _ hf5
  have g3 : w5.cell? ⟨K4, 2, none⟩ = some (.slice A4 1 c4) := cell_of_row w5 K4 2 _ _ _ hf5
  have g4 : w5.cell? ⟨K4, 3, none⟩ = some (.string u) := cell_of_row w5 K4 3 _ _ _ hf5
  have hl0 := Nat.lt_of_lt_of_le hltA hbA5.size
  have hl4 : K4 < w5.heap.size := (Array.getElem?_eq_some_iff.1 hf5).1
  have HTW5 := Lib.hid (show TabW w5.drew from (HTW.out.below hbA5 : TabW w5))
  have HW5 := Lib.hid hw5
  have HK4 := Lib.hid hK4
  have hb55 : Below w5.heap.size w5 w5 := Below.refl _ _
  clear hi4 hb3 hb4 hbw3 hbA4 hbA5 hf5 hw5 hK4 ha0 ha1 hbB
  go_upto_region 6 with (fail)
  rw [← HW5.out, ← HK4.out]
  go_region_held3 (fun w' => w'.cell? ⟨K, 0, none⟩ = some (.int .i64 3) ∧ w'.cell? ⟨K, 1, none⟩ = some (.int .i64 i) ∧ w'.cell? ⟨K4, 1, none⟩ = some (.bool true) ∧ w'.cell? ⟨K4, 2, none⟩ = some (.slice A4 1 c4) ∧ w'.cell? ⟨K4, 3, none⟩ = some (.string u) ∧ Below w5.heap.size w5 w')
    (first | exact ⟨g0, g1, g2, g3, g4, hb55.drew⟩ | exact ⟨m0, m1, m2, m3, m4, hbM⟩ | exact ⟨n0, n1, n2, n3, n4, hbN⟩)
    (first
      | (go_at_call 8; refine (ptSeq_any 3 i _ HR.out HTW5.out).mono ?_; rintro e wm ⟨rfl, hbm⟩; rw [← HU.out]; have m0 := (hbm.cell (p := ⟨K, 0, none⟩) hl0).trans g0; have m1 := (hbm.cell (p := ⟨K, 1, none⟩) hl0).trans g1; have m2 := (hbm.cell (p := ⟨K4, 1, none⟩) hl4).trans g2; have m3 := (hbm.cell (p := ⟨K4, 2, none⟩) hl4).trans g3; have m4 := (hbm.cell (p := ⟨K4, 3, none⟩) hl4).trans g4; have hbM := hb55.drew.trans hbm; clear hbm)
      | (go_at_call 20; refine (escFgText_any i _ H.out).mono ?_; rintro e wn ⟨rfl, hbn⟩; rw [← HU.out]; have hl0m := Nat.lt_of_lt_of_le hl0 hbM.size; have hl4m := Nat.lt_of_lt_of_le hl4 hbM.size; have n0 := (hbn.cell (p := ⟨K, 0, none⟩) hl0m).trans m0; have n1 := (hbn.cell (p := ⟨K, 1, none⟩) hl0m).trans m1; have n2 := (hbn.cell (p := ⟨K4, 1, none⟩) hl4m).trans m2; have n3 := (hbn.cell (p := ⟨K4, 2, none⟩) hl4m).trans m3; have n4 := (hbn.cell (p := ⟨K4, 3, none⟩) hl4m).trans m4; have hbN := hbM.trans (hbn.mono hbM.size); clear hbn))
  have hbF := hbw5.trans (hbN.mono hbw5.size)
  go_wp2
  go_ret
  exact ⟨rfl, hbF⟩

set_option maxRecDepth 100000 in
set_option maxHeartbeats 8000000 in
theorem mach2564_any (i : Int) (w : World) (h : 0 ≤ i ∧ i ≤ 255) (hT : Tabs w ∧ TabW w) :
    Calls Tryz.prog 6 #[.bool true, .int .u8 i] w fun e w' => e = .returned (.bool true) ∧ Below w.heap.size w w' := by
  have HT := Lib.hid hT.1.stay
  have HW := Lib.hid hT.2
  have hr : opRightB ⟨4, i⟩ = true := by
    simp [opRightB]
    omega
  have HR := Lib.hid hr
  obtain ⟨o1, o2⟩ := one_256 (o := ⟨4, i⟩) (by simp) h
  have hcode : opP [] ⟨4, i⟩ = [2000 + i] := by rw [o1]; rfl
  rw [hcode] at o2
  obtain ⟨u, hu⟩ : ∃ u : ByteArray, u = ⟨(opSeq ⟨4, i⟩).toArray⟩ := ⟨_, rfl⟩
  have huz : u.size ≤ 12 := by rw [hu, mk_size]; exact opSeq_len hr
  have hrs : runes u = chars (opSeq ⟨4, i⟩) := by rw [hu]; exact runes_mk _ (opSeq_ascii _)
  have hne : runes u ≠ [] := fun e => by
    have h2 : (runes u).length = (opSeq ⟨4, i⟩).length := by rw [hrs]; unfold chars; rw [List.length_map]
    have := opSeq_pos ⟨4, i⟩
    rw [e] at h2
    simp at h2
    omega
  have HX := Lib.hid (show lastOf (runes u) = ⟨false, true, [2000 + i], u, ⟨#[]⟩⟩ by
    unfold lastOf
    rw [if_neg hne, hrs, op_done (p := fresh) rfl hr]
    show stOf ⟨opP [] ⟨4, i⟩, false, 0, []⟩ ⟨#[]⟩ = _
    rw [hcode]
    unfold stOf seqB
    dsimp only
    rw [o2, ← hu]
    rfl)
  have HU := Lib.hid hu
  have HUZ := Lib.hid huz
  have H := Lib.hid h
  have h1 : 0 ≤ i := h.1
  have h2 : i ≤ 255 := h.2
  clear hT hr o1 o2 hcode huz hrs hne hu h
  have hf0 : (w.alloc (.cells #[.int .i64 3, .int .i64 i] 24)).heap[w.heap.size]? = some (.cells #[.int .i64 3, .int .i64 i] 24 (0, 0)) := heap_alloc_new w _
  have hfz := frozen_of_row _ w.heap.size 0 _ _ hf0
  have hbA := (Below.refl w.heap.size w).alloc (Nat.le_refl _) (.cells #[.int .i64 3, .int .i64 i] 24)
  have hf1 : (w.alloc (.cells #[.int .i64 4, .int .i64 i] 24)).heap[w.heap.size]? = some (.cells #[.int .i64 4, .int .i64 i] 24 (0, 0)) := heap_alloc_new w _
  obtain ⟨wA, hwA⟩ : ∃ wA, wA = w.alloc (.cells #[.int .i64 4, .int .i64 i] 24) := ⟨_, rfl⟩
  have hbB : Below w.heap.size w wA := by rw [hwA]; exact (Below.refl w.heap.size w).alloc (Nat.le_refl _) _
  rw [← hwA] at hf1
  obtain ⟨K, hK⟩ : ∃ K, K = w.heap.size := ⟨_, rfl⟩
  rw [← hK] at hf1
  have hltA : K < wA.heap.size := (Array.getElem?_eq_some_iff.1 hf1).1
  have ha0 : wA.cell? ⟨K, 0, none⟩ = some (.int .i64 4) := cell_of_row wA K 0 _ _ _ hf1
  have ha1 : wA.cell? ⟨K, 1, none⟩ = some (.int .i64 i) := cell_of_row wA K 1 _ _ _ hf1
  have HWA := Lib.hid hwA
  have HK := Lib.hid hK
  have HTW := Lib.hid (HW.out.below hbB)
  clear hf0 hf1 hbA hwA hK
  go_enter Tryz.func6, Tryz.ntmps6
  go_wp2_with fail
  refine (escFgIndex_any i _ H.out).mono ?_
  rintro e w2 ⟨rfl, rfl⟩
  go_wp2_with fail
  refine (escBgIndex_any i _ H.out).mono ?_
  rintro e w2 ⟨rfl, rfl⟩
  go_upto_region 5 with (fail)
  rw [← HWA.out, ← HK.out]
  go_wp2_with fail
  refine (ptSeq_any 4 i _ HR.out HTW.out).mono ?_
  rintro e w3 ⟨rfl, hb3⟩
  rw [← HU.out]
  have hbw3 := hbB.trans (hb3.mono hbB.size)
  have HT3 := Lib.hid (HT.out.then hbw3).now.stay
  go_wp2_with fail
  refine (ptLast_any u _ (by have := HUZ.out; omega) HT3.out).mono ?_
  rintro e w4 ⟨A4, c4, rfl, hi4, hb4⟩
  rw [HX.out]
  dsimp only [stAgg, List.length_cons, List.length_nil]
  have hbA4 := hb3.trans (hb4.mono hb3.size)
  obtain ⟨w5, hw5⟩ : ∃ w5, w5 = w4.alloc (.cells #[.bool false, .bool true, .slice A4 1 c4, .string u, .string ⟨#[]⟩] 29) := ⟨_, rfl⟩
  obtain ⟨K4, hK4⟩ : ∃ K4, K4 = w4.heap.size := ⟨_, rfl⟩
  have hf5 : w5.heap[K4]? = some (.cells #[.bool false, .bool true, .slice A4 1 c4, .string u, .string ⟨#[]⟩] 29 (0, 0)) := by rw [hw5, hK4]; exact heap_alloc_new w4 _
  have hbA5 : Below wA.heap.size wA w5 := by rw [hw5]; exact hbA4.alloc hbA4.size _
  have hbw5 := hbB.trans (hbA5.mono hbB.size)
  have g0 : w5.cell? ⟨K, 0, none⟩ = some (.int .i64 4) := (hbA5.cell (p := ⟨K, 0, none⟩) hltA).trans ha0
  have g1 : w5.cell? ⟨K, 1, none⟩ = some (.int .i64 i) := (hbA5.cell (p := ⟨K, 1, none⟩) hltA).trans ha1
  have g2 : w5.cell? ⟨K4, 1, none⟩ = some (.bool true) := cell_of_row w5 K4 1 _ _ _ hf5
  have g3 : w5.cell? ⟨K4, 2, none⟩ = some (.slice A4 1 c4) := cell_of_row w5 K4 2 _ _ _ hf5
  have g4 : w5.cell? ⟨K4, 3, none⟩ = some (.string u) := cell_of_row w5 K4 3 _ _ _ hf5
  have hl0 := Nat.lt_of_lt_of_le hltA hbA5.size
  have hl4 : K4 < w5.heap.size := (Array.getElem?_eq_some_iff.1 hf5).1
  have HTW5 := Lib.hid (show TabW w5.drew from (HTW.out.below hbA5 : TabW w5))
  have HW5 := Lib.hid hw5
  have HK4 := Lib.hid hK4
  have hb55 : Below w5.heap.size w5 w5 := Below.refl _ _
  clear hi4 hb3 hb4 hbw3 hbA4 hbA5 hf5 hw5 hK4 ha0 ha1 hbB
  go_upto_region 6 with (fail)
  rw [← HW5.out, ← HK4.out]
  go_region_held3 (fun w' => w'.cell? ⟨K, 0, none⟩ = some (.int .i64 4) ∧ w'.cell? ⟨K, 1, none⟩ = some (.int .i64 i) ∧ w'.cell? ⟨K4, 1, none⟩ = some (.bool true) ∧ w'.cell? ⟨K4, 2, none⟩ = some (.slice A4 1 c4) ∧ w'.cell? ⟨K4, 3, none⟩ = some (.string u) ∧ Below w5.heap.size w5 w')
    (first | exact ⟨g0, g1, g2, g3, g4, hb55.drew⟩ | exact ⟨m0, m1, m2, m3, m4, hbM⟩ | exact ⟨n0, n1, n2, n3, n4, hbN⟩)
    (first
      | (go_at_call 8; refine (ptSeq_any 4 i _ HR.out HTW5.out).mono ?_; rintro e wm ⟨rfl, hbm⟩; rw [← HU.out]; have m0 := (hbm.cell (p := ⟨K, 0, none⟩) hl0).trans g0; have m1 := (hbm.cell (p := ⟨K, 1, none⟩) hl0).trans g1; have m2 := (hbm.cell (p := ⟨K4, 1, none⟩) hl4).trans g2; have m3 := (hbm.cell (p := ⟨K4, 2, none⟩) hl4).trans g3; have m4 := (hbm.cell (p := ⟨K4, 3, none⟩) hl4).trans g4; have hbM := hb55.drew.trans hbm; clear hbm)
      | (go_at_call 20; refine (escBgText_any i _ H.out).mono ?_; rintro e wn ⟨rfl, hbn⟩; rw [← HU.out]; have hl0m := Nat.lt_of_lt_of_le hl0 hbM.size; have hl4m := Nat.lt_of_lt_of_le hl4 hbM.size; have n0 := (hbn.cell (p := ⟨K, 0, none⟩) hl0m).trans m0; have n1 := (hbn.cell (p := ⟨K, 1, none⟩) hl0m).trans m1; have n2 := (hbn.cell (p := ⟨K4, 1, none⟩) hl4m).trans m2; have n3 := (hbn.cell (p := ⟨K4, 2, none⟩) hl4m).trans m3; have n4 := (hbn.cell (p := ⟨K4, 3, none⟩) hl4m).trans m4; have hbN := hbM.trans (hbn.mono hbM.size); clear hbn))
  have hbF := hbw5.trans (hbN.mono hbw5.size)
  go_wp2
  go_ret
  exact ⟨rfl, hbF⟩

theorem mach256_any (b : Bool) (i : Int) (w : World) (h : 0 ≤ i ∧ i ≤ 255) (hT : Tabs w ∧ TabW w) :
    Calls Tryz.prog 6 #[.bool b, .int .u8 i] w fun e w' => e = .returned (.bool true) ∧ Below w.heap.size w w' := by
  cases b
  · exact mach2563_any i w h hT
  · exact mach2564_any i w h hT
end Go.Proofs.YtlclmpiocbkabaaGreatDoor
