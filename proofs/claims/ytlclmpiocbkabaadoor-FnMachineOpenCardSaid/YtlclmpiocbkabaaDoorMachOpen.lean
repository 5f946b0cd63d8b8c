/- Walk of laws.FnMachineOpen: it answers true and writes nothing that was there. Condition: the library's tables as they are laid. -/
import Derived.Test.YtlclmpiocbkabaaDoorPtStates
import Derived.Test.YtlclmpiocbkabaaDoorPtRising
namespace Go.Proofs.YtlclmpiocbkabaaDoor
open Go.RowKit
set_option linter.unusedVariables false
set_option linter.unusedSimpArgs false

theorem charStates_mem : ∀ (rs : List Int) (n : Nat) (s : PS), Fine n s → ∀ st ∈ statesOf s (stepsOf rs), ∃ s' td, st = stOf s' td ∧ Fine (n + 10 * rs.length) s'
  | [], _, _, _, st, hst => by simp [stepsOf, statesOf] at hst
  | r :: rs, n, s, h, st, hst => by
    have hst' : st ∈ stOf (stepP s ⟨0, r, ⟨#[]⟩⟩) (toldP s ⟨0, r, ⟨#[]⟩⟩) :: statesOf (stepP s ⟨0, r, ⟨#[]⟩⟩) (stepsOf rs) := hst
    have hf : Fine (n + 10) (stepP s ⟨0, r, ⟨#[]⟩⟩) := h.step r
    rcases List.mem_cons.1 hst' with rfl | hst2
    · exact ⟨_, _, rfl, hf.more (by rw [List.length_cons]; omega)⟩
    · obtain ⟨s', td, e, hf2⟩ := charStates_mem rs (n + 10) _ hf st hst2
      exact ⟨s', td, e, hf2.more (by rw [List.length_cons]; omega)⟩
theorem seqB_empty (l : List Int) : (seqB l).toList.isEmpty = !decide (0 < l.length) := by
  unfold seqB seqP
  cases l with
  | nil =>
    rw [if_pos rfl, Lib.toList_data]
    rfl
  | cons c r =>
    rw [if_neg (by simp)]
    rw [Lib.toList_data]
    simp

set_option maxRecDepth 100000 in
set_option maxHeartbeats 4000000 in
theorem machOpen_any (s : ByteArray) (w : World) (hT : Tabs w) :
    Calls Tryd.prog 5 #[.string s] w fun e w' => e = .returned (.bool true) ∧ Below w.heap.size w w' := by
  have HT := Lib.hid hT.stay
  clear hT
  by_cases h1 : s.size ≤ 2147483647
  · have h1' : ¬ (2147483647 : Int) < (s.size : Int) := by omega
    go_enter Tryd.func5, Tryd.ntmps5
    go_wp2_with fail
    refine (ptValid_any s _).mono ?_
    rintro e w1 ⟨b, rfl, hb, hb1⟩
    cases b with
    | false =>
      go_wp2
      go_ret
      exact ⟨rfl, hb1⟩
    | true =>
      have hs := hb rfl
      clear hb
      have hl := runes_length s
      go_wp2_with fail
      refine (ptStates_any s _ (by omega) (HT.out.then hb1).now.stay).mono ?_
      rintro e w2 ⟨v, rfl, hst, hb2⟩
      have hb12 := hb1.trans (hb2.mono hb1.size)
      have hst2 := hst.base hb1.size
      obtain ⟨A, c, rfl, hcc, hc63⟩ := hst.shape
      have HALL := Lib.hid (charStates_mem (runes s) 0 fresh Fine.start)
      have h500 : (runes s).length ≤ 500 := by omega
      have H500 := Lib.hid h500
      clear h500
      obtain ⟨n, hn⟩ : ∃ n, n = (runes s).length := ⟨_, rfl⟩
      have HN := Lib.hid hn
      rw [← hn] at hst2 hcc hl ⊢
      clear hb1 hb2 hst hn
      go_wp2
      go_loopw [16] (fun v16 wr => ∃ k : Nat, k ≤ n ∧ v16 = .int .i64 k ∧ Below w2.heap.size w2 wr) (fun v16 _ => n - (intOf v16).toNat)
      case atStart => exact ⟨0, Nat.zero_le _, rfl, Below.refl _ _⟩
      case round =>
        obtain ⟨k, hk, rfl, hbw⟩ := hrel
        have hsz := hbw.size
        have hbr := hb12.trans (hbw.mono hb12.size)
        by_cases hlt : k < n
        · obtain ⟨ad, c', st, A', d', hv, hx, hc0, hc1, hc2, hc3, hc4, hi⟩ := (hst2.below hbw).at_ hlt
          injection hv with e1 e2 e3
          subst e1 e3
          have hk1 : (k : Int) < (n : Int) := by omega
          obtain ⟨s', td, rfl, hr⟩ := HALL.out st (List.mem_of_getElem? hx)
          have he := seqB_empty s'.codes
          have hcl : s'.codes.length ≤ 1000000 := by have := hr.few; have := H500.out; unfold weight at *; omega
          have hr := hr.rising
          obtain ⟨codes, hcd⟩ : ∃ codes, codes = s'.codes := ⟨_, rfl⟩
          dsimp only [stOf] at hc0 hc1 hc2 hc3 hc4 hi
          rw [← hcd] at hc1 hc2 hc3 hi he hcl hr
          obtain ⟨q, hq⟩ : ∃ q, q = seqB codes := ⟨_, rfl⟩
          rw [← hq] at hc3 he
          obtain ⟨cl, hcle⟩ : ∃ cl, cl = codes.length := ⟨_, rfl⟩
          rw [← hcle] at hc1 hc2 hi he hcl
          obtain ⟨b, hbd⟩ : ∃ b, b = decide (0 < cl) := ⟨_, rfl⟩
          rw [← hbd] at hc1 he
          have hd1 : decide (0 < cl) = b := hbd.symm
          have hd2 : decide ((0 : Int) < (cl : Int)) = b := by rw [hbd]; simp
          generalize s'.inE = ie at hc0
          have hbA := (Below.refl wr.heap.size wr).alloc (Nat.le_refl _) (.cells #[.bool ie, .bool b, .slice A' cl d', .string q, .string td] 39)
          have hi2 : IntsAt (wr.alloc (.cells #[.bool ie, .bool b, .slice A' cl d', .string q, .string td] 39)) (wr.alloc (.cells #[.bool ie, .bool b, .slice A' cl d', .string q, .string td] 39)).heap.size A' cl d' codes := (hi.below hbA).more (by simp)
          have hq1 := cell_of_row _ _ 1 _ _ _ (heap_alloc_new wr (.cells #[.bool ie, .bool b, .slice A' cl d', .string q, .string td] 39))
          have hq3 := cell_of_row _ _ 3 _ _ _ (heap_alloc_new wr (.cells #[.bool ie, .bool b, .slice A' cl d', .string q, .string td] 39))
          have HI := Lib.hid hi2
          have HR := Lib.hid hr
          have HQ1 := Lib.hid hq1
          have HQ3 := Lib.hid hq3
          clear hi hi2 hr hx hcd hq hcle hq1 hq3 hbd
          go_wp2_with fail
          refine (ptRising_any A' cl d' codes _ HI.out HR.out hcl).mono ?_
          rintro e w4 ⟨rfl, hb4⟩
          have hg1 := (hb4.cell (p := ⟨wr.heap.size, 1, none⟩) (by simp)).trans HQ1.out
          have hg3 := (hb4.cell (p := ⟨wr.heap.size, 3, none⟩) (by simp)).trans HQ3.out
          have hbw4 := hbw.trans ((hbA.trans (hb4.mono hbA.size)).mono hsz)
          clear hb4 hbA hbw hc0 hc1 hc2 hc3 hc4 HQ1 HQ3
          go_wp2
          go_roundw
          case rel => exact ⟨k + 1, by omega, by go_num, hbw4⟩
          case measure => simp [intOf]; omega
        · obtain ⟨cc, w5, hconv, hbw5, hsz5, _, _⟩ := run_runes (P := Tryd.prog) wr 9 45 21 s Tryd.underlying9 Tryd.underlying45 Tryd.underlying21 (by omega)
          rw [← HN.out] at hconv
          have hbf := hbr.trans (hbw5.mono hbr.size)
          clear hbw5 hsz5
          go_wp2
          go_ret
          exact ⟨rfl, hbf⟩
  · have h1' : (2147483647 : Int) < (s.size : Int) := by omega
    go_enter Tryd.func5, Tryd.ntmps5
    go_wp2
    go_ret
    exact ⟨rfl, Below.refl _ _⟩
end Go.Proofs.YtlclmpiocbkabaaDoor
