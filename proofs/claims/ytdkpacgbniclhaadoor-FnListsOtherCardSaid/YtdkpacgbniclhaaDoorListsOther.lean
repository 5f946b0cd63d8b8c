/- Walk of laws.FnListsOther: it answers true and writes nothing that was there. No condition. -/
import Derived.Test.YtdkpacgbniclhaaDoorRegionSix
namespace Go.Proofs.YtdkpacgbniclhaaDoor
open Go.RowKit
set_option linter.unusedVariables false

def put8 (a : Act) (v : V6) : Act := ((((((((a.put (some 29) v.s29).put (some 33) v.s33).put (some 35) v.s35).put (some 36) v.s36).put (some 37) v.s37).put (some 38) v.s38).put (some 42) v.s42).put (some 8) v.s8)
/-- What stands there now. -/
def cur8 (a : Act) : V6 := ⟨a.eval (.tmp 29), a.eval (.tmp 33), a.eval (.tmp 35), a.eval (.tmp 36), a.eval (.tmp 37), a.eval (.tmp 38), a.eval (.tmp 42), a.eval (.tmp 8)⟩
theorem region6_at {P : Program} {ops : Array Oper} {Q : Exit → Act → World → Prop} {fuel : Nat} {L : Array Bool} {a : Act} {W : World} (hf : fuel = 8) (hL : L = mk6 false false false false false false false false) (ha : put8 a (cur8 a) = a) (h : wpAny P .any ops Q 8 (mk6 false false false false false false false false) (put8 a (cur8 a)) W) : wpAny P .any ops Q fuel L a W := by
  subst hf hL
  rw [← ha]
  exact h
set_option maxRecDepth 100000 in
set_option maxHeartbeats 16000000 in
theorem listsOther_any (A1 : Option Addr) (n1 c1 : Nat) (l : List Step) (kd x : Int) (w : World) (h1 : StepsAt w w.heap.size A1 n1 c1 l) (z1 : A1 = none → n1 = 0 ∧ c1 = 0) (hx : 0 ≤ x ∧ x ≤ 255) :
    Calls Tryd.prog 3 #[.slice A1 n1 c1, .int .i64 kd, .int .u8 x] w fun e w' => e = .returned (.bool true) ∧ Below w.heap.size w w' := by
  cases hf : fitStepsB l with
  | false =>
    have HF := Lib.hid hf
    clear hf
    go_enter Tryd.func3, Tryd.ntmps3
    go_wp2_with fail
    refine (fitSteps_any _ _ _ l _ h1).mono ?_
    rintro e w1 ⟨rfl, hb1⟩
    rw [HF.out]
    go_wp2
    go_ret
    exact ⟨rfl, hb1⟩
  | true =>
  have HF := Lib.hid hf
  clear hf
  go_enter Tryd.func3, Tryd.ntmps3
  go_wp2_with fail
  refine (fitSteps_any _ _ _ l _ h1).mono ?_
  rintro e w1 ⟨rfl, hb1⟩
  rw [HF.out]
  have g1 := (h1.below hb1).more hb1.size
  cases hr : rightB l with
  | false =>
    have HR := Lib.hid hr
    clear hr
    go_wp2_with fail
    refine (right_any _ _ _ l _ g1).mono ?_
    rintro e w3 ⟨rfl, hb3⟩
    rw [HR.out]
    have hb13 := hb1.trans (hb3.mono hb1.size)
    go_wp2
    go_ret
    exact ⟨rfl, hb13⟩
  | true =>
  have HR := Lib.hid hr
  have HFI := Lib.hid (Fine.of_right hr)
  have hl80 := (right_plain hr).2.2
  have hc80 := (right_plain hr).2.1
  clear hr
  by_cases hk0 : 0 ≤ kd ∧ kd ≤ 5
  · obtain ⟨hk0, hk5⟩ := hk0
    go_wp2_with fail
    refine (right_any _ _ _ l _ g1).mono ?_
    rintro e w3 ⟨rfl, hb3⟩
    rw [HR.out]
    have hb13 := hb1.trans (hb3.mono hb1.size)
    clear g1 hb1 hb3
    go_wp2
    go_ret
    exact ⟨rfl, hb13⟩
  go_upto_region 3 with (fail)
  go_cut [22] (fun v22 wx => v22 = .bool false ∧ Below w.heap.size w wx)
  case first =>
    go_wp2_with fail
    refine (right_any _ _ _ l _ g1).mono ?_
    rintro e w3 ⟨rfl, hb3⟩
    rw [HR.out]
    have hb13 := hb1.trans (hb3.mono hb1.size)
    clear g1 hb1 hb3
    by_cases hk1 : 0 ≤ kd
    · have hk2 : ¬ kd ≤ 5 := by omega
      go_wp2_with fail
      go_meet
      exact ⟨by first | rfl | (simp; omega), hb13⟩
    · go_wp2_with fail
      go_meet
      exact ⟨rfl, hb13⟩
  case rest =>
  obtain ⟨rfl, hb⟩ := hcut
  clear g1 hb1
  have hn1 : n1 ≤ 80 := by rw [← h1.len]; exact hl80
  obtain ⟨i, hi⟩ : ∃ i : Nat, x % ((n1 : Int) + 1) = (i : Int) := ⟨(x % ((n1 : Int) + 1)).toNat, by have := Int.emod_nonneg x (b := (n1 : Int) + 1) (by omega); omega⟩
  have hin : i ≤ n1 := by have := Int.emod_lt_of_pos x (b := (n1 : Int) + 1) (by omega); omega
  go_upto_region 6 with (fail)
  rw [hi]
  go_cut [8] (fun v8 wx => (∃ G, OwnSteps wx w.heap.size G v8 (n1 + 1) (l.take i ++ [otherS kd] ++ l.drop i)) ∧ Below w.heap.size w wx)
  case first =>
    have H1 := Lib.hid h1
    have Z1 := Lib.hid z1
    have hsw : w.heap.size ≤ wc.heap.size := hb.size
    have hcap : n1 ≤ c1 := by obtain ⟨xs, hr, _⟩ := h1; exact hr.cap
    clear h1 z1 hx
    refine wp_region_any (by rfl) ?_
    have hbd := hb.drew
    cases A1 with
    | none =>
      obtain ⟨rfl, rfl⟩ := Z1.out rfl
      obtain rfl : i = 0 := by omega
      refine wpAny_take (i := 1) (v := ?v1) rfl (by kernel_rfl) (by kernel_rfl) (by kernel_rfl) (fun _ _ _ h => h) (Or.inl ⟨by rfl, ?hy1⟩) ?re1
      case hy1 => (intro w; (try simp only [List.getElem_toArray, List.getElem_cons_succ, List.getElem_cons_zero]); go_simp; try with_reducible rfl)
      try simp only [Act.put, List.getElem_toArray, List.getElem_cons_succ, List.getElem_cons_zero, List.setIfInBounds_toArray, List.set_cons_zero, List.set_cons_succ]
      refine wpAny_take (i := 2) (v := ?v2) rfl (by kernel_rfl) (by kernel_rfl) (by kernel_rfl) (fun _ _ _ h => h) (Or.inl ⟨by rfl, ?hy2⟩) ?re2
      case hy2 => (intro w; (try simp only [List.getElem_toArray, List.getElem_cons_succ, List.getElem_cons_zero]); go_simp; try with_reducible rfl)
      try simp only [Act.put, List.getElem_toArray, List.getElem_cons_succ, List.getElem_cons_zero, List.setIfInBounds_toArray, List.set_cons_zero, List.set_cons_succ]
      refine wpAny_take (i := 3) (v := ?v3) rfl (by kernel_rfl) (by kernel_rfl) (by kernel_rfl) (fun _ _ _ h => h) (Or.inl ⟨by rfl, ?hy3⟩) ?re3
      case hy3 => (intro w; (try simp only [List.getElem_toArray, List.getElem_cons_succ, List.getElem_cons_zero]); go_simp; try with_reducible rfl)
      try simp only [Act.put, List.getElem_toArray, List.getElem_cons_succ, List.getElem_cons_zero, List.setIfInBounds_toArray, List.set_cons_zero, List.set_cons_succ]
      refine wpAny_take (i := 5) (v := ?v4) rfl (by kernel_rfl) (by kernel_rfl) (by kernel_rfl) (fun _ _ _ h => h) (Or.inl ⟨by rfl, ?hy4⟩) ?re4
      case hy4 => (intro w; (try simp only [List.getElem_toArray, List.getElem_cons_succ, List.getElem_cons_zero]); go_simp; try with_reducible rfl)
      try simp only [Act.put, List.getElem_toArray, List.getElem_cons_succ, List.getElem_cons_zero, List.setIfInBounds_toArray, List.set_cons_zero, List.set_cons_succ]
      refine wpAny_take (i := 10) (v := ?v5) rfl (by kernel_rfl) (by kernel_rfl) (by kernel_rfl) (fun _ _ _ h => h) (Or.inl ⟨by rfl, ?hy5⟩) ?re5
      case hy5 => (intro w; (try simp only [List.getElem_toArray, List.getElem_cons_succ, List.getElem_cons_zero]); go_simp; try with_reducible rfl)
      try simp only [Act.put, List.getElem_toArray, List.getElem_cons_succ, List.getElem_cons_zero, List.setIfInBounds_toArray, List.set_cons_zero, List.set_cons_succ]
      refine wpAny_take (i := 11) (v := ?v6) rfl (by kernel_rfl) (by kernel_rfl) (by kernel_rfl) (fun _ _ _ h => h) (Or.inl ⟨by rfl, ?hy6⟩) ?re6
      case hy6 => (intro w; (try simp only [List.getElem_toArray, List.getElem_cons_succ, List.getElem_cons_zero]); go_simp; try with_reducible rfl)
      try simp only [Act.put, List.getElem_toArray, List.getElem_cons_succ, List.getElem_cons_zero, List.setIfInBounds_toArray, List.set_cons_zero, List.set_cons_succ]
      refine wpAny_take (i := 12) (v := ?v7) rfl (by kernel_rfl) (by kernel_rfl) (by kernel_rfl) (fun _ _ _ h => h) (Or.inl ⟨by rfl, ?hy7⟩) ?re7
      case hy7 => (intro w; (try simp only [List.getElem_toArray, List.getElem_cons_succ, List.getElem_cons_zero]); go_simp; try with_reducible rfl)
      try simp only [Act.put, List.getElem_toArray, List.getElem_cons_succ, List.getElem_cons_zero, List.setIfInBounds_toArray, List.set_cons_zero, List.set_cons_succ]
      refine region6_at rfl (by kernel_rfl) (by rfl) ?_
      refine region6 (put8 _) w 0 0 l kd none 0 0 none 0 (by omega) (by omega) ?hsa_0 ?hsb_0 ?p0_0 ?p4_0 ?p6_0 ?p7_0 ?p8_0 ?p9_0 ?p13_0 ?p14_0 (by kernel_rfl) (by kernel_rfl) (by kernel_rfl) (by kernel_rfl) (by kernel_rfl) (by kernel_rfl) (by kernel_rfl) (by kernel_rfl) (by kernel_rfl) (by kernel_rfl) (by kernel_rfl) (by kernel_rfl) (by kernel_rfl) (by kernel_rfl) (by kernel_rfl) ?fin_0 _ _ ?hb0_0
      case hsa_0 => exact fun W hW => ((H1.out.take hin).below hW).src hW.size (fun e => ⟨rfl, rfl⟩) (fun k h => h)
      case hsb_0 =>
        intro W hW
        have hl := H1.out.len
        have hd : l.drop 0 = [] := List.drop_eq_nil_of_le (by omega)
        rw [hd]
        exact ⟨[], rfl, fun _ => ⟨rfl, rfl⟩, fun _ e => (by cases e), rfl, fun k s hk => by simp at hk⟩
      case p0_0 =>
        intro v W K h
        refine wpOp_of rfl rfl ?_
        simp only [put8, Act.put, List.setIfInBounds_toArray, List.set_cons_zero, List.set_cons_succ] at h ⊢
        go_simp
        exact h
      case p6_0 => 
        intro v W K h
        refine wpOp_of rfl rfl ?_
        simp only [put8, Act.put, List.setIfInBounds_toArray, List.set_cons_zero, List.set_cons_succ] at h ⊢
        go_simp
        exact h
      case p7_0 =>
        intro v W K kb hu h
        refine wpOp_of rfl rfl ?_
        simp only [put8, Act.put, List.setIfInBounds_toArray, List.set_cons_zero, List.set_cons_succ] at h ⊢
        rw [hu] at h ⊢
        unfold otherV at h
        go_simp
        exact h
      case p14_0 => 
        intro v W K h
        refine wpOp_of rfl rfl ?_
        simp only [put8, Act.put, List.setIfInBounds_toArray, List.set_cons_zero, List.set_cons_succ] at h ⊢
        go_simp
        exact h
      case p8_0 => 
        intro v W K kb hu h
        refine wpOp_of rfl rfl ?_
        simp only [put8, Act.put, List.setIfInBounds_toArray, List.set_cons_zero, List.set_cons_succ] at h ⊢
        rw [hu] at h ⊢
        unfold otherV at h ⊢
        go_simp
        exact h
      case p4_0 => 
        intro v W K G n q hown hsrc hn hB h
        refine wpOp_of rfl rfl ?_
        simp only [put8, Act.put, List.setIfInBounds_toArray, List.set_cons_zero, List.set_cons_succ] at h ⊢
        exact wp_append_steps (.tmp 29) (.tmp 32) rfl _ G _ n q rfl hown _ _ _ _ rfl hsrc hn hB h
      case p9_0 => 
        intro v W K G n q A m c q' hown e37 hsrc hn hB h
        refine wpOp_of rfl rfl ?_
        simp only [put8, Act.put, List.setIfInBounds_toArray, List.set_cons_zero, List.set_cons_succ] at h ⊢
        exact wp_append_steps (.tmp 33) (.tmp 37) rfl _ G _ n q rfl hown _ _ _ _ e37 hsrc hn hB h
      case p13_0 => 
        intro v W K G n q hown hsrc hn hB h
        refine wpOp_of rfl rfl ?_
        simp only [put8, Act.put, List.setIfInBounds_toArray, List.set_cons_zero, List.set_cons_succ] at h ⊢
        exact wp_append_steps (.tmp 38) (.tmp 41) rfl _ G _ n q rfl hown _ _ _ _ rfl hsrc hn hB h
      case hb0_0 => assumption
      case fin_0 =>
        intro v W hW hG
        simp only [put8, Act.put, List.setIfInBounds_toArray, List.set_cons_zero, List.set_cons_succ]
        go_step
        go_step
        go_meet
        exact ⟨hG, hW⟩
    | some ad =>
      have hi1 : (0 : Int) ≤ (i : Int) := by omega
      have hi2 : (i : Int) ≤ (n1 : Int) := by omega
      have hi3 : (i : Int) ≤ (c1 : Int) := by omega
      have hi4 : (n1 : Int) ≤ (c1 : Int) := by omega
      refine wpAny_take (i := 1) (v := ?v8) rfl (by kernel_rfl) (by kernel_rfl) (by kernel_rfl) (fun _ _ _ h => h) (Or.inl ⟨by rfl, ?hy8⟩) ?re8
      case hy8 => (intro w; (try simp only [List.getElem_toArray, List.getElem_cons_succ, List.getElem_cons_zero]); go_simp; try with_reducible rfl)
      try simp only [Act.put, List.getElem_toArray, List.getElem_cons_succ, List.getElem_cons_zero, List.setIfInBounds_toArray, List.set_cons_zero, List.set_cons_succ]
      refine wpAny_take (i := 2) (v := ?v9) rfl (by kernel_rfl) (by kernel_rfl) (by kernel_rfl) (fun _ _ _ h => h) (Or.inl ⟨by rfl, ?hy9⟩) ?re9
      case hy9 => (intro w; (try simp only [List.getElem_toArray, List.getElem_cons_succ, List.getElem_cons_zero]); go_simp; try with_reducible rfl)
      try simp only [Act.put, List.getElem_toArray, List.getElem_cons_succ, List.getElem_cons_zero, List.setIfInBounds_toArray, List.set_cons_zero, List.set_cons_succ]
      refine wpAny_take (i := 3) (v := ?v10) rfl (by kernel_rfl) (by kernel_rfl) (by kernel_rfl) (fun _ _ _ h => h) (Or.inl ⟨by rfl, ?hy10⟩) ?re10
      case hy10 => (intro w; (try simp only [List.getElem_toArray, List.getElem_cons_succ, List.getElem_cons_zero]); go_simp; try with_reducible rfl)
      try simp only [Act.put, List.getElem_toArray, List.getElem_cons_succ, List.getElem_cons_zero, List.setIfInBounds_toArray, List.set_cons_zero, List.set_cons_succ]
      refine wpAny_take (i := 5) (v := ?v11) rfl (by kernel_rfl) (by kernel_rfl) (by kernel_rfl) (fun _ _ _ h => h) (Or.inl ⟨by rfl, ?hy11⟩) ?re11
      case hy11 => (intro w; (try simp only [List.getElem_toArray, List.getElem_cons_succ, List.getElem_cons_zero]); go_simp; try with_reducible rfl)
      try simp only [Act.put, List.getElem_toArray, List.getElem_cons_succ, List.getElem_cons_zero, List.setIfInBounds_toArray, List.set_cons_zero, List.set_cons_succ]
      refine wpAny_take (i := 10) (v := ?v12) rfl (by kernel_rfl) (by kernel_rfl) (by kernel_rfl) (fun _ _ _ h => h) (Or.inl ⟨by rfl, ?hy12⟩) ?re12
      case hy12 => (intro w; (try simp only [List.getElem_toArray, List.getElem_cons_succ, List.getElem_cons_zero]); go_simp; try with_reducible rfl)
      try simp only [Act.put, List.getElem_toArray, List.getElem_cons_succ, List.getElem_cons_zero, List.setIfInBounds_toArray, List.set_cons_zero, List.set_cons_succ]
      refine wpAny_take (i := 11) (v := ?v13) rfl (by kernel_rfl) (by kernel_rfl) (by kernel_rfl) (fun _ _ _ h => h) (Or.inl ⟨by rfl, ?hy13⟩) ?re13
      case hy13 => (intro w; (try simp only [List.getElem_toArray, List.getElem_cons_succ, List.getElem_cons_zero]); go_simp; try with_reducible rfl)
      try simp only [Act.put, List.getElem_toArray, List.getElem_cons_succ, List.getElem_cons_zero, List.setIfInBounds_toArray, List.set_cons_zero, List.set_cons_succ]
      by_cases hci : c1 = i
      · have hs0 : ∀ W, Below w.heap.size w W → SrcSteps W (fun k => k < w.heap.size) (some ad) (n1 - i) 0 (l.drop i) := fun W hW => by
          have hl := H1.out.len
          have h0 : n1 - i = 0 := by omega
          have hd : l.drop i = [] := List.drop_eq_nil_of_le (by omega)
          rw [h0, hd]
          exact ⟨[], rfl, fun e => (by cases e), fun _ _ j v hj => by simp at hj, rfl, fun k s hk => by simp at hk⟩
        refine wpAny_take (i := 12) (v := ?v14) rfl (by kernel_rfl) (by kernel_rfl) (by kernel_rfl) (fun _ _ _ h => h) (Or.inl ⟨by rfl, ?hy14⟩) ?re14
        case hy14 => (intro w; (try simp only [List.getElem_toArray, List.getElem_cons_succ, List.getElem_cons_zero]); go_simp; try with_reducible rfl)
        try simp only [Act.put, List.getElem_toArray, List.getElem_cons_succ, List.getElem_cons_zero, List.setIfInBounds_toArray, List.set_cons_zero, List.set_cons_succ]
        clear hci
        refine region6_at rfl (by kernel_rfl) (by rfl) ?_
        refine region6 (put8 _) w i n1 l kd (some ad) (n1 - i) 0 (some ad) c1 (by omega) (by omega) ?hsa_1 ?hsb_1 ?p0_1 ?p4_1 ?p6_1 ?p7_1 ?p8_1 ?p9_1 ?p13_1 ?p14_1 (by kernel_rfl) (by kernel_rfl) (by kernel_rfl) (by kernel_rfl) (by kernel_rfl) (by kernel_rfl) (by kernel_rfl) (by kernel_rfl) (by kernel_rfl) (by kernel_rfl) (by kernel_rfl) (by kernel_rfl) (by kernel_rfl) (by kernel_rfl) (by kernel_rfl) ?fin_1 _ _ ?hb0_1
        case hsa_1 => exact fun W hW => ((H1.out.take hin).below hW).src hW.size (fun e => by cases e) (fun k h => h)
        case hsb_1 => exact hs0
        case p0_1 =>
          intro v W K h
          refine wpOp_of rfl rfl ?_
          simp only [put8, Act.put, List.setIfInBounds_toArray, List.set_cons_zero, List.set_cons_succ] at h ⊢
          go_simp
          exact h
        case p6_1 => 
          intro v W K h
          refine wpOp_of rfl rfl ?_
          simp only [put8, Act.put, List.setIfInBounds_toArray, List.set_cons_zero, List.set_cons_succ] at h ⊢
          go_simp
          exact h
        case p7_1 =>
          intro v W K kb hu h
          refine wpOp_of rfl rfl ?_
          simp only [put8, Act.put, List.setIfInBounds_toArray, List.set_cons_zero, List.set_cons_succ] at h ⊢
          rw [hu] at h ⊢
          unfold otherV at h
          go_simp
          exact h
        case p14_1 => 
          intro v W K h
          refine wpOp_of rfl rfl ?_
          simp only [put8, Act.put, List.setIfInBounds_toArray, List.set_cons_zero, List.set_cons_succ] at h ⊢
          go_simp
          exact h
        case p8_1 => 
          intro v W K kb hu h
          refine wpOp_of rfl rfl ?_
          simp only [put8, Act.put, List.setIfInBounds_toArray, List.set_cons_zero, List.set_cons_succ] at h ⊢
          rw [hu] at h ⊢
          unfold otherV at h ⊢
          go_simp
          exact h
        case p4_1 => 
          intro v W K G n q hown hsrc hn hB h
          refine wpOp_of rfl rfl ?_
          simp only [put8, Act.put, List.setIfInBounds_toArray, List.set_cons_zero, List.set_cons_succ] at h ⊢
          exact wp_append_steps (.tmp 29) (.tmp 32) rfl _ G _ n q rfl hown _ _ _ _ rfl hsrc hn hB h
        case p9_1 => 
          intro v W K G n q A m c q' hown e37 hsrc hn hB h
          refine wpOp_of rfl rfl ?_
          simp only [put8, Act.put, List.setIfInBounds_toArray, List.set_cons_zero, List.set_cons_succ] at h ⊢
          exact wp_append_steps (.tmp 33) (.tmp 37) rfl _ G _ n q rfl hown _ _ _ _ e37 hsrc hn hB h
        case p13_1 => 
          intro v W K G n q hown hsrc hn hB h
          refine wpOp_of rfl rfl ?_
          simp only [put8, Act.put, List.setIfInBounds_toArray, List.set_cons_zero, List.set_cons_succ] at h ⊢
          exact wp_append_steps (.tmp 38) (.tmp 41) rfl _ G _ n q rfl hown _ _ _ _ rfl hsrc hn hB h
        case hb0_1 => assumption
        case fin_1 =>
          intro v W hW hG
          simp only [put8, Act.put, List.setIfInBounds_toArray, List.set_cons_zero, List.set_cons_succ]
          go_step
          go_step
          go_meet
          exact ⟨hG, hW⟩
      · refine wpAny_take (i := 12) (v := ?v15) rfl (by kernel_rfl) (by kernel_rfl) (by kernel_rfl) (fun _ _ _ h => h) (Or.inl ⟨by rfl, ?hy15⟩) ?re15
        case hy15 => (intro w; (try simp only [List.getElem_toArray, List.getElem_cons_succ, List.getElem_cons_zero]); go_simp; try with_reducible rfl)
        try simp only [Act.put, List.getElem_toArray, List.getElem_cons_succ, List.getElem_cons_zero, List.setIfInBounds_toArray, List.set_cons_zero, List.set_cons_succ]
        refine region6_at rfl (by kernel_rfl) (by rfl) ?_
        refine region6 (put8 _) w i n1 l kd (some (ad.add (i * 3))) (n1 - i) (c1 - i) (some ad) c1 (by omega) (by omega) ?hsa_2 ?hsb_2 ?p0_2 ?p4_2 ?p6_2 ?p7_2 ?p8_2 ?p9_2 ?p13_2 ?p14_2 (by kernel_rfl) (by kernel_rfl) (by kernel_rfl) (by kernel_rfl) (by kernel_rfl) (by kernel_rfl) (by kernel_rfl) (by kernel_rfl) (by kernel_rfl) (by kernel_rfl) (by kernel_rfl) (by kernel_rfl) (by kernel_rfl) (by kernel_rfl) (by kernel_rfl) ?fin_2 _ _ ?hb0_2
        case hsa_2 => exact fun W hW => ((H1.out.take hin).below hW).src hW.size (fun e => by cases e) (fun k h => h)
        case hsb_2 => exact fun W hW => ((H1.out.drop hin).below hW).src hW.size (fun e => by cases e) (fun k h => h)
        case p0_2 =>
          intro v W K h
          refine wpOp_of rfl rfl ?_
          simp only [put8, Act.put, List.setIfInBounds_toArray, List.set_cons_zero, List.set_cons_succ] at h ⊢
          go_simp
          exact h
        case p6_2 => 
          intro v W K h
          refine wpOp_of rfl rfl ?_
          simp only [put8, Act.put, List.setIfInBounds_toArray, List.set_cons_zero, List.set_cons_succ] at h ⊢
          go_simp
          exact h
        case p7_2 =>
          intro v W K kb hu h
          refine wpOp_of rfl rfl ?_
          simp only [put8, Act.put, List.setIfInBounds_toArray, List.set_cons_zero, List.set_cons_succ] at h ⊢
          rw [hu] at h ⊢
          unfold otherV at h
          go_simp
          exact h
        case p14_2 => 
          intro v W K h
          refine wpOp_of rfl rfl ?_
          simp only [put8, Act.put, List.setIfInBounds_toArray, List.set_cons_zero, List.set_cons_succ] at h ⊢
          go_simp
          exact h
        case p8_2 => 
          intro v W K kb hu h
          refine wpOp_of rfl rfl ?_
          simp only [put8, Act.put, List.setIfInBounds_toArray, List.set_cons_zero, List.set_cons_succ] at h ⊢
          rw [hu] at h ⊢
          unfold otherV at h ⊢
          go_simp
          exact h
        case p4_2 => 
          intro v W K G n q hown hsrc hn hB h
          refine wpOp_of rfl rfl ?_
          simp only [put8, Act.put, List.setIfInBounds_toArray, List.set_cons_zero, List.set_cons_succ] at h ⊢
          exact wp_append_steps (.tmp 29) (.tmp 32) rfl _ G _ n q rfl hown _ _ _ _ rfl hsrc hn hB h
        case p9_2 => 
          intro v W K G n q A m c q' hown e37 hsrc hn hB h
          refine wpOp_of rfl rfl ?_
          simp only [put8, Act.put, List.setIfInBounds_toArray, List.set_cons_zero, List.set_cons_succ] at h ⊢
          exact wp_append_steps (.tmp 33) (.tmp 37) rfl _ G _ n q rfl hown _ _ _ _ e37 hsrc hn hB h
        case p13_2 => 
          intro v W K G n q hown hsrc hn hB h
          refine wpOp_of rfl rfl ?_
          simp only [put8, Act.put, List.setIfInBounds_toArray, List.set_cons_zero, List.set_cons_succ] at h ⊢
          exact wp_append_steps (.tmp 38) (.tmp 41) rfl _ G _ n q rfl hown _ _ _ _ rfl hsrc hn hB h
        case hb0_2 => assumption
        case fin_2 =>
          intro v W hW hG
          simp only [put8, Act.put, List.setIfInBounds_toArray, List.set_cons_zero, List.set_cons_succ]
          go_step
          go_step
          go_meet
          exact ⟨hG, hW⟩
  case rest =>
    obtain ⟨⟨G, hown⟩, hbw⟩ := hcut
    obtain ⟨wq, rfl⟩ : ∃ q : World, q = wc := ⟨_, rfl⟩
    obtain ⟨m, hm⟩ : ∃ m, m = n1 + 1 := ⟨_, rfl⟩
    obtain ⟨al, hal⟩ : ∃ al, al = l.take i ++ [otherS kd] ++ l.drop i := ⟨_, rfl⟩
    rw [← hm, ← hal] at hown
    have hmb : m ≤ 81 := by omega
    have hpl : played al = played l := by rw [hal, played_none (fun e => hk0 e), List.take_append_drop]
    have hfk : Fine al := by
      have f := HFI.out
      have hct := cost_append (l.take i) (l.drop i)
      rw [List.take_append_drop] at hct
      have hc := f.cost
      have hc1 : cost [otherS kd] = 2 := rfl
      refine ⟨?_, ?_, ?_, ?_⟩
      · rw [hal, List.length_append, List.length_append, List.length_take, List.length_drop]
        show _ + 1 + _ ≤ 300
        omega
      · rw [hal, cost_append, cost_append, hc1]
        omega
      · rw [hal]
        exact ListsOK.app (ListsOK.app (fun s hs => f.plain s (List.mem_of_mem_take hs)) (by intro s hs; rw [List.mem_singleton.1 hs]; exact other_plain kd)) (fun s hs => f.plain s (List.mem_of_mem_drop hs))
      · rw [hal]
        exact ListsOK.app (ListsOK.app (fun s hs => f.small s (List.mem_of_mem_take hs)) (by intro s hs; rw [List.mem_singleton.1 hs]; exact ⟨by show 2 ≤ 1000; omega, by intro t ht; rw [List.mem_singleton.1 ht]; show 4 ≤ 1000; omega⟩)) (fun s hs => f.small s (List.mem_of_mem_drop hs))
    have HPL := Lib.hid hpl
    have HFK := Lib.hid hfk
    obtain ⟨o, ho⟩ : ∃ o : ByteArray, o = ⟨(drawD plainStyle (played l)).toArray⟩ := ⟨_, rfl⟩
    have HO := Lib.hid ho
    obtain ⟨A9, c9, rfl, hat9, _⟩ := hown.at_
    have h9 := (h1.below hbw).more hbw.size
    have hpb : (played l).length ≤ 2000 := HFI.out.drawn.1
    obtain ⟨pn, hpn⟩ : ∃ pn, pn = (played l).length := ⟨_, rfl⟩
    have HPN := Lib.hid hpn
    clear ho hal hm hpl hfk hown hpn
    go_wp2_with fail
    refine (listPlain_any _ _ _ al _ hat9 HFK.out.cost (by have := HFK.out.len; omega) HFK.out.plain HFK.out.drawn).mono ?_
    rintro e w11 ⟨rfl, hb11⟩
    rw [HPL.out, ← HO.out]
    have hat11 := (hat9.below hb11).more hb11.size
    have h11 := (h9.below hb11).more hb11.size
    have hbw11 := hbw.trans (hb11.mono hbw.size)
    clear hat9 h9 hbw hb11
    go_wp2_with fail
    refine (listPlain_any _ _ _ l _ h11 HFI.out.cost (by have := HFI.out.len; omega) HFI.out.plain HFI.out.drawn).mono ?_
    rintro e w12 ⟨rfl, hb12⟩
    rw [← HO.out]
    have hat12 := (hat11.below hb12).more hb12.size
    have h12 := (h11.below hb12).more hb12.size
    have hbw12 := hbw11.trans (hb12.mono hbw11.size)
    clear hat11 h11 hbw11 hb12
    go_wp2_with fail
    refine (listLength_any _ _ _ al _ hat12 (by have := HFK.out.cost; omega) (by have := HFK.out.len; omega) HFK.out.plain).mono ?_
    rintro e w13 ⟨rfl, hb13⟩
    rw [HPL.out, ← HPN.out]
    have h13 := (h12.below hb13).more hb13.size
    have hbw13 := hbw12.trans (hb13.mono hbw12.size)
    clear hat12 h12 hbw12 hb13
    go_wp2_with fail
    refine (listLength_any _ _ _ l _ h13 (by have := HFI.out.cost; omega) (by have := HFI.out.len; omega) HFI.out.plain).mono ?_
    rintro e w14 ⟨rfl, hb14⟩
    rw [← HPN.out]
    have hbw14 := hbw13.trans (hb14.mono hbw13.size)
    clear h13 hbw13 hb14
    go_wp2_with fail
    refine (alive_any _).mono ?_
    rintro e w15 ⟨rfl, hb15⟩
    have hbw15 := hbw14.trans (hb15.mono hbw14.size)
    go_wp2
    go_ret
    exact ⟨rfl, hbw15⟩
end Go.Proofs.YtdkpacgbniclhaaDoor
