/- Walks of spec.PtRight, PtSeq, ptOff, PtAfter: over what a sequence does. Conditions: as each says.
   Plain words on memory: what a slice of ops that came in reads as, in the words of the walks.
   What the parser laws share: a text consumed character by character; what is behind it. Conditions: as each says. -/
import Derived.Test.YtlclmpiocbkabaaGreatDoorMachAll
import Derived.Test.YtlclmpiocbkabaaGreatDoorSeq
import Derived.Test.YtlclmpiocbkabaaGreatDoorCells
import Derived.Deep.QuietTactic
import Derived.Test.YtlclmpiocbkabaaGreatDoorOpen
import Derived.Deep.Strs
import Derived.ChangeSlices
import Derived.ChangeSame
import Derived.Test.YtlclmpiocbkabaaGreatDoorPtAll
namespace Go.Proofs.YtlclmpiocbkabaaGreatDoor
open Go.RowKit
set_option linter.unusedVariables false
set_option linter.unusedSimpArgs false

/-! ### a slice of ops -/
def opV (o : Op) : List Value := [.int .i64 o.kind, .int .i64 o.n]
def opsV (l : List Op) : List Value := l.flatMap opV
def OpsAt (w : World) (B : Nat) (A : Option Addr) (n c : Nat) (l : List Op) : Prop := Rd w B 2 A n c (opsV l) ∧ l.length = n
theorem opsV_at : ∀ {l : List Op} {k : Nat} {x : Op} (j : Nat), l[k]? = some x → j < 2 → (opsV l)[k * 2 + j]? = (opV x)[j]?
  | [], k, x, j, h, _ => by simp at h
  | y :: l, 0, x, j, h, hj => by
    simp at h
    subst h
    show (opV y ++ opsV l)[0 * 2 + j]? = _
    rw [List.getElem?_append_left (by simp [opV]; omega)]
    congr 1
    omega
  | y :: l, k + 1, x, j, h, hj => by
    have ih := opsV_at (l := l) (k := k) (x := x) j (by simpa using h) hj
    show (opV y ++ opsV l)[(k + 1) * 2 + j]? = _
    rw [List.getElem?_append_right (by simp [opV]; omega)]
    rw [show (k + 1) * 2 + j - (opV y).length = k * 2 + j by simp [opV]; omega]
    exact ih
theorem OpsAt.below {w w' : World} {B n c : Nat} {A : Option Addr} {l : List Op} (h : OpsAt w B A n c l) (hb : Below B w w') : OpsAt w' B A n c l := ⟨h.1.below hb, h.2⟩
theorem OpsAt.more {w : World} {B B' n c : Nat} {A : Option Addr} {l : List Op} (h : OpsAt w B A n c l) (hB : B ≤ B') : OpsAt w B' A n c l := ⟨h.1.more hB, h.2⟩
theorem OpsAt.small {w : World} {B n c : Nat} {A : Option Addr} {l : List Op} (h : OpsAt w B A n c l) : n ≤ 9223372036854775807 := by have := h.1.cap; have := h.1.small; omega
theorem OpsAt.at_ {w : World} {B n c k : Nat} {A : Option Addr} {l : List Op} (h : OpsAt w B A n c l) (hk : k < n) :
    ∃ ad x, A = some ad ∧ ad.block < B ∧ l[k]? = some x ∧ w.cell? (ad.add (k * 2)) = some (.int .i64 x.kind) ∧ w.cell? ⟨(ad.add (k * 2)).block, (ad.add (k * 2)).off + 1, none⟩ = some (.int .i64 x.n) := by
  obtain ⟨h1, h2⟩ := h
  obtain ⟨ad, e, hb, hc⟩ := h1.cells (by omega)
  have hx : l[k]? = some l[k] := List.getElem?_eq_getElem (by omega)
  refine ⟨ad, l[k], e, hb, hx, ?_, ?_⟩
  · exact hc (k * 2) _ (opsV_at 0 hx (by omega))
  · rw [← add_step]; exact hc (k * 2 + (0 + 1)) _ (opsV_at 1 hx (by omega))

/-! ### spec.PtRight -/
set_option maxHeartbeats 4000000 in
theorem ptRight_any (kd x : Int) (w : World) :
    Calls Tryz.prog 7 #[.agg #[.int .i64 kd, .int .i64 x]] w fun e w' => e = .returned (.bool (opRightB ⟨kd, x⟩)) ∧ Below w.heap.size w w' := by
  have hb := (Below.refl w.heap.size w).alloc (Nat.le_refl _) (.cells #[.int .i64 kd, .int .i64 x] 24)
  by_cases h0 : kd = 0
  · subst h0
    have HB := Lib.hid (show opRightB ⟨0, x⟩ = attrB x from rfl)
    go_enter Tryz.func7, Tryz.ntmps7
    go_wp2_with fail
    refine (attr_any x _).mono ?_
    rintro e w' ⟨rfl, rfl⟩
    go_wp2
    go_ret
    exact ⟨ret_bool HB.out.symm, hb⟩
  by_cases h1 : kd = 1
  · subst h1
    go_enter Tryz.func7, Tryz.ntmps7
    go_wp2
    go_ret
    exact ⟨rfl, hb⟩
  by_cases h2 : kd = 2
  · subst h2
    have HB := Lib.hid (show opRightB ⟨2, x⟩ = offCodeB x from rfl)
    go_enter Tryz.func7, Tryz.ntmps7
    go_wp2
    all_goals (go_ret; exact ⟨ret_bool (by rw [HB.out, Bool.eq_iff_iff]; simp [offCodeB]; try omega), by first | exact hb | exact (Below.refl _ w).alloc (Nat.le_refl _) _⟩)
  have q0 : (kd == 0) = false := by rw [beq_eq_false_iff_ne]; exact h0
  have q1 : (kd == 1) = false := by rw [beq_eq_false_iff_ne]; exact h1
  have q2 : (kd == 2) = false := by rw [beq_eq_false_iff_ne]; exact h2
  by_cases h3 : kd = 3
  · subst h3
    have HB := Lib.hid (show opRightB ⟨3, x⟩ = (decide (0 ≤ x) && decide (x ≤ 255)) from rfl)
    clear q0 q1 q2 h0 h1 h2
    go_enter Tryz.func7, Tryz.ntmps7
    go_wp2
    all_goals (go_ret; exact ⟨ret_bool (by rw [HB.out, Bool.eq_iff_iff]; simp; try omega), hb⟩)
  by_cases h4 : kd = 4
  · subst h4
    have HB := Lib.hid (show opRightB ⟨4, x⟩ = (decide (0 ≤ x) && decide (x ≤ 255)) from rfl)
    clear q0 q1 q2 h0 h1 h2 h3
    go_enter Tryz.func7, Tryz.ntmps7
    go_wp2
    all_goals (go_ret; exact ⟨ret_bool (by rw [HB.out, Bool.eq_iff_iff]; simp; try omega), hb⟩)
  have q3 : (kd == 3) = false := by rw [beq_eq_false_iff_ne]; exact h3
  have q4 : (kd == 4) = false := by rw [beq_eq_false_iff_ne]; exact h4
  have HB := Lib.hid (show opRightB ⟨kd, x⟩ = false by unfold opRightB; rw [if_neg h0, if_neg h1, if_neg h2, if_neg (by rintro (h | h); exact h3 h; exact h4 h)])
  clear h0 h1 h2 h3 h4
  go_enter Tryz.func7, Tryz.ntmps7
  go_wp2
  go_ret
  exact ⟨ret_bool HB.out.symm, hb⟩

/-! ### spec.PtSeq -/
theorem opSeq_reg {o : Op} (h1 : o.kind ≠ 1) (h3 : o.kind ≠ 3) (h4 : o.kind ≠ 4) : opSeq o = [27, 91] ++ codeL o.n ++ [109] := by unfold opSeq; rw [if_neg h1, if_neg h3, if_neg h4]
set_option maxHeartbeats 4000000 in
theorem ptSeq_any (kd x : Int) (w : World) (hr : opRightB ⟨kd, x⟩ = true) (ht : TabW w) :
    Calls Tryz.prog 8 #[.agg #[.int .i64 kd, .int .i64 x]] w fun e w' => e = .returned (.string ⟨(opSeq ⟨kd, x⟩).toArray⟩) ∧ Below w.heap.size w w' := by
  have hb := (Below.refl w.heap.size w).alloc (Nat.le_refl _) (.cells #[.int .i64 kd, .int .i64 x] 24)
  have ht1 := ht.below hb
  have hor := op_range hr
  by_cases h1 : kd = 1
  · subst h1
    go_enter Tryz.func8, Tryz.ntmps8
    go_wp2
    go_ret
    exact ⟨rfl, hb⟩
  have hx : 0 ≤ x ∧ x < 1000 := by
    rcases hor with h | h
    · exact absurd h h1
    · exact h
  have hz : (⟨(codeL x).toArray⟩ : ByteArray).size ≤ 4 := by rw [mk_size]; exact codeL_len hx
  obtain ⟨q, hq⟩ : ∃ q : ByteArray, q = ⟨(codeL x).toArray⟩ := ⟨_, rfl⟩
  rw [← hq] at hz
  have HQ := Lib.hid hq
  clear hq hor hr
  by_cases h3 : kd = 3
  · subst h3
    have HS := Lib.hid (show (⟨#[27, 91, 51, 56, 59, 53, 59]⟩ : ByteArray) ++ q ++ ⟨#[109]⟩ = ⟨(opSeq ⟨3, x⟩).toArray⟩ by
      apply bl_ext
      rw [bl_app, bl_app, bl_mk, HQ.out, bl_mk]
      rfl)
    have c1 : ¬ (9223372036854775807 < (⟨#[27, 91, 51, 56, 59, 53, 59]⟩ : ByteArray).size + q.size) := by show ¬ (9223372036854775807 < 7 + q.size); omega
    have c2 : ¬ (9223372036854775807 < ((⟨#[27, 91, 51, 56, 59, 53, 59]⟩ : ByteArray) ++ q).size + (⟨#[109]⟩ : ByteArray).size) := by rw [size_app]; show ¬ (9223372036854775807 < 7 + q.size + 1); omega
    go_enter Tryz.func8, Tryz.ntmps8
    go_wp2_with fail
    refine (itoaT_any x _ hx ht1).mono ?_
    rintro e w2 ⟨rfl, hb2⟩
    rw [← HQ.out]
    have hb12 := hb.trans (hb2.mono hb.size)
    go_wp2
    go_ret
    exact ⟨ret_str HS.out, hb12⟩
  by_cases h4 : kd = 4
  · subst h4
    have HS := Lib.hid (show (⟨#[27, 91, 52, 56, 59, 53, 59]⟩ : ByteArray) ++ q ++ ⟨#[109]⟩ = ⟨(opSeq ⟨4, x⟩).toArray⟩ by
      apply bl_ext
      rw [bl_app, bl_app, bl_mk, HQ.out, bl_mk]
      rfl)
    have c1 : ¬ (9223372036854775807 < (⟨#[27, 91, 52, 56, 59, 53, 59]⟩ : ByteArray).size + q.size) := by show ¬ (9223372036854775807 < 7 + q.size); omega
    have c2 : ¬ (9223372036854775807 < ((⟨#[27, 91, 52, 56, 59, 53, 59]⟩ : ByteArray) ++ q).size + (⟨#[109]⟩ : ByteArray).size) := by rw [size_app]; show ¬ (9223372036854775807 < 7 + q.size + 1); omega
    clear h1 h3
    go_enter Tryz.func8, Tryz.ntmps8
    go_wp2_with fail
    refine (itoaT_any x _ hx ht1).mono ?_
    rintro e w2 ⟨rfl, hb2⟩
    rw [← HQ.out]
    have hb12 := hb.trans (hb2.mono hb.size)
    go_wp2
    go_ret
    exact ⟨ret_str HS.out, hb12⟩
  have HS := Lib.hid (show (⟨#[27, 91]⟩ : ByteArray) ++ q ++ ⟨#[109]⟩ = ⟨(opSeq ⟨kd, x⟩).toArray⟩ by
    apply bl_ext
    rw [bl_app, bl_app, bl_mk, HQ.out, bl_mk, opSeq_reg (o := ⟨kd, x⟩) h1 h3 h4])
  have q1 : (kd == 1) = false := by rw [beq_eq_false_iff_ne]; exact h1
  have q3 : (kd == 3) = false := by rw [beq_eq_false_iff_ne]; exact h3
  have q4 : (kd == 4) = false := by rw [beq_eq_false_iff_ne]; exact h4
  have c1 : ¬ (9223372036854775807 < (⟨#[27, 91]⟩ : ByteArray).size + q.size) := by show ¬ (9223372036854775807 < 2 + q.size); omega
  have c2 : ¬ (9223372036854775807 < ((⟨#[27, 91]⟩ : ByteArray) ++ q).size + (⟨#[109]⟩ : ByteArray).size) := by rw [size_app]; show ¬ (9223372036854775807 < 2 + q.size + 1); omega
  clear h1 h3 h4
  go_enter Tryz.func8, Tryz.ntmps8
  go_wp2_with fail
  refine (itoaT_any x _ hx ht1).mono ?_
  rintro e w2 ⟨rfl, hb2⟩
  rw [← HQ.out]
  have hb12 := hb.trans (hb2.mono hb.size)
  go_wp2
  go_ret
  exact ⟨ret_str HS.out, hb12⟩

/-! ### spec.ptOff -/
set_option maxHeartbeats 4000000 in
theorem ptOff_any (x c : Int) (w : World) :
    Calls Tryz.prog 31 #[.int .i64 x, .int .i64 c] w fun e w' => e = .returned (.bool (offB x c)) ∧ w = w' := by
  by_cases h22 : x = 22
  · subst h22
    have HB := Lib.hid (show offB 22 c = (decide (c = 1) || decide (c = 2)) from rfl)
    go_enter Tryz.func31, Tryz.ntmps31
    go_wp2
    all_goals (go_ret; exact ⟨ret_bool (by rw [HB.out, Bool.eq_iff_iff]; simp; try omega), rfl⟩)
  by_cases h23 : x = 23
  · subst h23
    have HB := Lib.hid (show offB 23 c = decide (c = 3) from rfl)
    go_enter Tryz.func31, Tryz.ntmps31
    go_wp2
    all_goals (go_ret; exact ⟨ret_bool (by rw [HB.out, Bool.eq_iff_iff]; simp; try omega), rfl⟩)
  by_cases h24 : x = 24
  · subst h24
    have HB := Lib.hid (show offB 24 c = decide (c = 4) from rfl)
    go_enter Tryz.func31, Tryz.ntmps31
    go_wp2
    all_goals (go_ret; exact ⟨ret_bool (by rw [HB.out, Bool.eq_iff_iff]; simp; try omega), rfl⟩)
  by_cases h27 : x = 27
  · subst h27
    have HB := Lib.hid (show offB 27 c = decide (c = 7) from rfl)
    go_enter Tryz.func31, Tryz.ntmps31
    go_wp2
    all_goals (go_ret; exact ⟨ret_bool (by rw [HB.out, Bool.eq_iff_iff]; simp; try omega), rfl⟩)
  by_cases h29 : x = 29
  · subst h29
    have HB := Lib.hid (show offB 29 c = decide (c = 9) from rfl)
    go_enter Tryz.func31, Tryz.ntmps31
    go_wp2
    all_goals (go_ret; exact ⟨ret_bool (by rw [HB.out, Bool.eq_iff_iff]; simp; try omega), rfl⟩)
  by_cases h25 : x = 25
  · subst h25
    have HB := Lib.hid (show offB 25 c = (decide (c = 5) || decide (c = 6)) from rfl)
    go_enter Tryz.func31, Tryz.ntmps31
    go_wp2
    all_goals (go_ret; exact ⟨ret_bool (by rw [HB.out, Bool.eq_iff_iff]; simp; try omega), rfl⟩)
  by_cases h39 : x = 39
  · subst h39
    have HB := Lib.hid (show offB 39 c = ((decide (30 ≤ c) && decide (c ≤ 37)) || (decide (90 ≤ c) && decide (c ≤ 97))) from rfl)
    go_enter Tryz.func31, Tryz.ntmps31
    go_wp2
    all_goals (go_ret; exact ⟨ret_bool (by rw [HB.out, Bool.eq_iff_iff]; simp; try omega), rfl⟩)
  by_cases h49 : x = 49
  · subst h49
    have HB := Lib.hid (show offB 49 c = ((decide (40 ≤ c) && decide (c ≤ 47)) || (decide (100 ≤ c) && decide (c ≤ 107))) from rfl)
    go_enter Tryz.func31, Tryz.ntmps31
    go_wp2
    all_goals (go_ret; exact ⟨ret_bool (by rw [HB.out, Bool.eq_iff_iff]; simp; try omega), rfl⟩)
  have HB := Lib.hid (show offB x c = false by
    unfold offB
    rw [if_neg h22, if_neg (by omega), if_neg h25, if_neg h39, if_neg h49])
  have q1 : (x == 22) = false := by rw [beq_eq_false_iff_ne]; exact h22
  have q2 : (x == 23) = false := by rw [beq_eq_false_iff_ne]; exact h23
  have q3 : (x == 24) = false := by rw [beq_eq_false_iff_ne]; exact h24
  have q4 : (x == 27) = false := by rw [beq_eq_false_iff_ne]; exact h27
  have q5 : (x == 29) = false := by rw [beq_eq_false_iff_ne]; exact h29
  have q6 : (x == 25) = false := by rw [beq_eq_false_iff_ne]; exact h25
  have q7 : (x == 39) = false := by rw [beq_eq_false_iff_ne]; exact h39
  have q8 : (x == 49) = false := by rw [beq_eq_false_iff_ne]; exact h49
  clear h22 h23 h24 h25 h27 h29 h39 h49
  go_enter Tryz.func31, Tryz.ntmps31
  go_wp2
  go_ret
  exact ⟨ret_bool HB.out.symm, rfl⟩

/-! ### spec.PtAfter -/
theorem afterOp_len (on : List Int) (o : Op) : (afterOp on o).length ≤ on.length + 1 := by
  unfold afterOp
  repeat' split
  · exact withC_len _ _
  · simp
  · exact Nat.le_trans (List.length_filter_le _ _) (Nat.le_succ _)
  · omega
theorem afterL_snoc (l : List Op) (o : Op) : afterL (l ++ [o]) = afterOp (afterL l) o := by simp [afterL]
theorem filter_take (p : Int → Bool) {l : List Int} {j : Nat} {y : Int} (h : l[j]? = some y) : (l.take (j + 1)).filter p = (l.take j).filter p ++ (if p y = true then [y] else []) := by
  rw [take_step h, List.filter_append]
  congr 1
  simp [List.filter_cons]

set_option maxRecDepth 100000 in
set_option maxHeartbeats 4000000 in
theorem ptAfter_any (A : Option Addr) (n c : Nat) (l : List Op) (w : World) (h : OpsAt w w.heap.size A n c l) (hn : n ≤ 1000) (hr : ∀ o ∈ l, opRightB o = true ∧ o.kind ≤ 2) :
    Calls Tryz.prog 15 #[.slice A n c] w fun e w' => ∃ v, e = .returned v ∧ OwnInts w' 3 v (afterL l) ∧ Below w.heap.size w w' := by
  obtain ⟨i0, hi, hz0, hz1, hz2⟩ := info_parts infoInt
  have HL := Lib.hid h.2
  have HR := Lib.hid hr
  clear hr
  go_enter Tryz.func15, Tryz.ntmps15
  go_wp2
  go_loopw [3, 11] (fun v3 v11 wr => ∃ (k : Nat) (on : List Int), k ≤ n ∧ v11 = .int .i64 k ∧ OwnInts wr 3 v3 on ∧ Below w.heap.size w wr ∧ Hid (on = afterL (l.take k)) ∧ on.length ≤ k) (fun _ v11 _ => n - (intOf v11).toNat)
  case atStart => exact ⟨0, [], Nat.zero_le _, rfl, OwnInts.nil _ _, Below.refl _ _, Lib.hid (by simp [afterL]), Nat.zero_le _⟩
  case round =>
    obtain ⟨k, on, hk, rfl, hown, hbw, HA, hlen⟩ := hrel
    have hsz := hbw.size
    by_cases hlt : k < n
    · obtain ⟨ad, o, rfl, _, hy, hc0, hc1⟩ := (h.below hbw).at_ hlt
      have hk1 : (k : Int) < (n : Int) := by omega
      have hro := HR.out o (List.mem_of_getElem? hy)
      have HN := Lib.hid (show afterL (l.take (k + 1)) = afterOp on o by rw [take_step hy, afterL_snoc, ← HA.out])
      have hol := afterOp_len on o
      have HOL := Lib.hid hol
      obtain ⟨kd, x⟩ := o
      dsimp only at hc0 hc1 hro
      have hb1 := (Below.refl wr.heap.size wr).alloc (Nat.le_refl _) (.cells #[.int .i64 kd, .int .i64 x] 24)
      have hbw1 := hbw.trans (hb1.mono hsz)
      have hown1 := hown.below hb1 (Nat.le_refl _)
      clear hy hol hown hb1
      rcases opRight_cases hro.1 with ⟨hkd, _⟩ | hkd | ⟨hkd, _⟩ | ⟨hkd, _⟩ | ⟨hkd, _⟩
      · have hkd' : kd = 0 := hkd
        clear hkd hro
        subst hkd'
        have HW := Lib.hid (show afterOp on ⟨0, x⟩ = withC on x from rfl)
        go_wp2_with fail
        refine (with_any _ on x _ (by omega) hown1).mono ?_
        rintro e w2 ⟨v2, rfl, hown2, hb2⟩
        have hbw2 := hbw1.trans (hb2.mono hbw1.size)
        rw [← HW.out] at hown2
        clear hown1 hbw1 hb2 hbw hc0 hc1
        go_wp2
        go_roundw
        case rel => exact ⟨k + 1, _, by omega, by go_num, hown2, hbw2, Lib.hid HN.out.symm, by have := HOL.out; omega⟩
        case measure => simp [intOf]; omega
      · have hkd' : kd = 1 := hkd
        clear hkd hro
        subst hkd'
        have HW := Lib.hid (show afterOp on ⟨1, x⟩ = [] from rfl)
        clear hown1 hbw
        go_wp2
        go_roundw
        case rel => exact ⟨k + 1, [], by omega, by go_num, OwnInts.nil _ _, hbw1, Lib.hid (by rw [HN.out, HW.out]), Nat.zero_le _⟩
        case measure => simp [intOf]; omega
      · have hkd' : kd = 2 := hkd
        clear hkd hro
        subst hkd'
        have HW := Lib.hid (show afterOp on ⟨2, x⟩ = on.filter (fun c => !offB x c) from rfl)
        obtain ⟨A3, c3, rfl, hrd⟩ := hown1.rd
        obtain ⟨m, hm⟩ : ∃ m, m = on.length := ⟨_, rfl⟩
        rw [← hm] at hrd hown1 hlen ⊢
        have HM := Lib.hid hm
        have hq1 := box_cell2 wr #[.int .i64 2, .int .i64 x] 24 1
        have HQ1 := Lib.hid hq1
        obtain ⟨wo, hwo⟩ : ∃ wo, wo = wr.alloc (.cells #[.int .i64 2, .int .i64 x] 24) := ⟨_, rfl⟩
        have hwos : wo.heap.size = wr.heap.size + 1 := by rw [hwo]; simp
        have HWO := Lib.hid hwo
        have HWOS := Lib.hid hwos
        clear hm hbw hq1 hwos hwo
        obtain ⟨wu, rfl⟩ : ∃ wu : World, wu = wr := ⟨_, rfl⟩
        go_wp2_with fail
        rw [← HWO.out] at hrd hbw1 ⊢
        go_loopw [6, 29] (fun v6 v29 wv => ∃ j : Nat, j ≤ m ∧ v29 = .int .i64 j ∧ wv.ownsRow wo.heap.size 3 1 v6 ((on.take j).filter (fun c => !offB x c)).length (((on.take j).filter (fun c => !offB x c)).map (Value.int .i64)) ∧ Below wo.heap.size wo wv) (fun _ v29 _ => m - (intOf v29).toNat)
        case atStart => exact ⟨0, Nat.zero_le _, rfl, World.ownsRow_nil _ _ _ _, Below.refl _ _⟩
        case round =>
          obtain ⟨j, hj, rfl, hrow, hbv⟩ := hrel
          have hsv := hbv.size
          have hq1v : wr.cell? ⟨wu.heap.size, 1, none⟩ = some (.int .i64 x) := (hbv.cell (p := ⟨wu.heap.size, 1, none⟩) (by show wu.heap.size < wo.heap.size; have := HWOS.out; omega)).trans (by rw [HWO.out]; exact HQ1.out)
          by_cases hlt2 : j < m
          · obtain ⟨ad3, y, rfl, _, hy, hcy⟩ := (hrd.below hbv).at_ hlt2
            have hj1 : (j : Int) < (m : Int) := by omega
            have HF := Lib.hid (filter_take (fun c => !offB x c) hy)
            have hfl : ((on.take j).filter (fun c => !offB x c)).length ≤ j := Nat.le_trans (List.length_filter_le _ _) (by rw [List.length_take]; omega)
            obtain ⟨fl, hfle⟩ : ∃ fl, fl = (on.take j).filter (fun c => !offB x c) := ⟨_, rfl⟩
            rw [← hfle] at hrow hfl
            have HFL := Lib.hid hfle
            clear hy hfle
            go_wp2_with fail
            refine (ptOff_any x y _).mono ?_
            rintro e w4 ⟨rfl, rfl⟩
            cases hob : offB x y with
            | true =>
              have HOB := Lib.hid hob
              clear hob
              go_wp2
              go_roundw
              case rel => exact ⟨j + 1, by omega, by go_num, by rw [HF.out, ← HFL.out, HOB.out]; simpa using hrow, hbv⟩
              case measure => simp [intOf]; omega
            | false =>
              have HOB := Lib.hid hob
              clear hob
              go_wp2_with (at_builtin; go_loud (refine wpList_append_own _ rfl _ _ 27 rfl wo.heap.size 3 i0 (.int .i64 0) 1 8 Tryz.underlying27 hi hz0 hz1 hz2 rfl (by decide) _ _ _ rfl (hrow.alloc _) ⟨wr.heap.size, 0, none⟩ 1 1 [.int .i64 y] rfl rfl (cell_one_new _ _ _) (by intro u hu; simp at hu; subst hu; rfl) (by unfold maxLen; omega) (by omega) (by simp; omega) ?_))
              intro v' w5 hown' hgrow _
              have hb5 := (hbv.alloc hsv (.cells #[.int .i64 y] 3)).grown hgrow (by simp; omega) (fun j hj => (World.ownsRow.lt hrow _ hj).1)
              clear hgrow hrow hbv
              go_wp2
              go_roundw
              case rel => exact ⟨j + 1, by omega, by go_num, by rw [show (on.take (j + 1)).filter (fun c => !offB x c) = fl ++ [y] by rw [HF.out, ← HFL.out]; simp [HOB.out], List.length_append, List.map_append]; exact hown', hb5⟩
              case measure => simp [intOf]; omega
          · have hjm : j = m := by omega
            have HE := Lib.hid (show (on.take j).filter (fun c => !offB x c) = afterOp on ⟨2, x⟩ by rw [HW.out, List.take_of_length_le (by rw [← HM.out]; omega)])
            have hown5 := own_base (base' := 0) hrow (Nat.zero_le _)
            rw [HE.out] at hown5
            have hbw5 := hbw1.trans (hbv.mono hbw1.size)
            clear hrow hbv
            go_wp2
            go_roundw
            case rel => exact ⟨k + 1, afterOp on ⟨2, x⟩, by omega, by go_num, hown5, hbw5, Lib.hid HN.out.symm, by have := HOL.out; have := HM.out; omega⟩
            case measure => simp [intOf]; omega
      · exact absurd hro.2 (by dsimp only at hkd ⊢; omega)
      · exact absurd hro.2 (by dsimp only at hkd ⊢; omega)
    · have hkn : k = n := by omega
      subst hkn
      have HE := Lib.hid (show on = afterL l by rw [HA.out, List.take_of_length_le (by rw [HL.out]; exact Nat.le_refl _)])
      go_wp2
      go_ret
      refine ⟨_, rfl, ?_, hbw⟩
      rw [← HE.out]
      exact hown
end Go.Proofs.YtlclmpiocbkabaaGreatDoor
namespace Go.Proofs.YtlclmpiocbkabaaGreatDoor
open Go.RowKit Go.ChangeShapes Go.Deep

theorem cellsOp : Tryz.prog.cellsOf 24 = 2 := by kernel_rfl
theorem cellsIntO : Tryz.prog.cellsOf 3 = 1 := by kernel_rfl
set_option maxRecDepth 100000 in
theorem ops_in {H : Type} {enc : TypeId × Value → H} {w : World} {fuel : Nat} {cs : List Value} {x : DataW H × List MemPlace} (h : DataW.trod enc Tryz.prog w 0 (fun _ => true) true fuel 22 cs = some x) :
    ∃ A n c l, cs = [.slice A n c] ∧ OpsAt w w.heap.size A n c l ∧ (A = none → n = 0 ∧ c = 0) := by
  rcases open_slice Tryz.underlying22 h with ⟨rfl, _⟩ | ⟨a, len, cap, m, fu, D, Pl, rfl, _, hl, hm, hmm, _, hi⟩
  · exact ⟨none, 0, 0, [], rfl, ⟨Rd.nil _ _ _, rfl⟩, fun _ => ⟨rfl, rfl⟩⟩
  simp only [if_true] at hmm
  rw [cellsOp] at hi
  have each : ∀ i, i < m → ∃ f : Op, w.cell? (a.add (i * 2)) = some (.int .i64 f.kind) ∧ w.cell? (a.add (i * 2 + 1)) = some (.int .i64 f.n) := by
    intro i him
    obtain ⟨cs', hc, ht⟩ := hi i him
    obtain ⟨y0, y1, n, _, hlen, h0, h1⟩ := trod_struct2 Tryz.underlying24 ht
    rw [cellsOp] at hlen
    obtain ⟨_, _, hat⟩ := World.cells?_some hc
    match cs', hlen with
    | [c0, c1], _ =>
      simp only [cellsIntO] at h0 h1
      obtain ⟨z0, hz0, _, _⟩ := DataW.trod_int Tryz.underlying3 h0
      obtain ⟨z1, hz1, _, _⟩ := DataW.trod_int Tryz.underlying3 h1
      simp at hz0 hz1
      subst hz0 hz1
      have k0 := hat 0 (by omega)
      have k1 := hat 1 (by omega)
      rw [add_add] at k0 k1
      simp at k0 k1
      exact ⟨⟨z0, z1⟩, k0, k1⟩
  haveI : Inhabited Op := ⟨⟨0, 0⟩⟩
  obtain ⟨F, hF⟩ := choose_lt each
  refine ⟨some a, len, cap, (List.range len).map F, rfl, ?_, fun e => by cases e⟩
  have hlen : ((List.range len).map F).length = len := by simp
  have hsz : ∀ l : List Op, (opsV l).length = l.length * 2 := by
    intro l
    induction l with
    | nil => rfl
    | cons o l ih => show (opV o ++ opsV l).length = _; rw [List.length_append, ih, List.length_cons]; simp [opV]; omega
  have hcell : ∀ j u, (opsV ((List.range len).map F))[j]? = some u → w.cell? (a.add j) = some u := by
    intro j u hu
    have hj : j < len * 2 := by
      have := (List.getElem?_eq_some_iff.1 hu).1
      rw [hsz, hlen] at this
      exact this
    have hx : ((List.range len).map F)[j / 2]? = some (F (j / 2)) := by rw [List.getElem?_map, List.getElem?_range (by omega)]; rfl
    have hat := opsV_at (j % 2) hx (by omega)
    rw [show j / 2 * 2 + j % 2 = j by omega, hu] at hat
    obtain ⟨h0, h1⟩ := hF (j / 2) (by omega)
    rcases (show j % 2 = 0 ∨ j % 2 = 1 by omega) with r | r
    · rw [r] at hat
      rw [show j / 2 * 2 = j by omega] at h0
      rw [h0, hat]; rfl
    · rw [r] at hat
      rw [show j / 2 * 2 + 1 = j by omega] at h1
      rw [h1, hat]; rfl
  exact ⟨⟨by rw [hsz, hlen], hl, by unfold maxLen at hm; omega, fun hp => ⟨a, rfl, by
    obtain ⟨h0, _⟩ := hF 0 (by omega)
    have := block_lt h0
    rw [add_block] at this
    exact this, hcell⟩⟩, hlen⟩
end Go.Proofs.YtlclmpiocbkabaaGreatDoor
namespace Go.Proofs.YtlclmpiocbkabaaGreatDoor
open Go.RowKit
set_option linter.unusedVariables false
set_option linter.unusedSimpArgs false

theorem parseChars_any (t : ByteArray) (v : Value) (B : Nat) (w : World) (hown : w.ownsRow B 54 3 v (runes t).length (stepsC (runes t))) (ht : t.size ≤ 700) (hT : TabsB w.heap.size w) :
    Calls Tryz.prog 12 #[v] w fun e w' => ∃ v', e = .returned v' ∧ OwnStates w' w.heap.size v' (runes t).length (charStates (runes t)) ∧ Below w.heap.size w w' := by
  have hl := runes_length t
  obtain ⟨A, c, rfl, hr⟩ := own_rd hown
  rw [← stepsOf_cells] at hr
  refine textParse_any A (runes t).length c (stepsOf (runes t)) w ⟨hr, by unfold stepsOf; rw [List.length_map]⟩ hT (by omega) ?_ ?_
  · intro x hx
    unfold stepsOf at hx
    rw [List.mem_map] at hx
    obtain ⟨r, hr, rfl⟩ := hx
    exact Or.inl ⟨rfl, runes_range t 0 r hr⟩
  · exact fun k _ => fine_take _ (by omega) k
theorem opSeq_pos (o : Op) : 0 < (opSeq o).length := by
  unfold opSeq
  repeat' split
  all_goals simp [RESET]
theorem opsT_pos {l : List Op} (h : 0 < l.length) : 0 < (opsT l).length := by
  cases l with
  | nil => simp at h
  | cons o l =>
    have := opSeq_pos o
    show 0 < (opSeq o ++ opsT l).length
    rw [List.length_append]
    omega
theorem runes_ops (l : List Op) : runes ⟨(opsT l).toArray⟩ = chars (opsT l) := runes_mk _ (opsT_ascii l)
/-- What is behind some sequences. -/
theorem ops_all {l : List Op} (h : ∀ o ∈ l, opRightB o = true) : consumeAll fresh (chars (opsT l)) = ⟨l.foldl opP [], false, 0, []⟩ := ops_done l [] h
theorem ops_shape {l : List Op} (h : ∀ o ∈ l, opRightB o = true) : Shape (l.foldl opP []) := Shape.nil.ops h
theorem ops_same {l : List Op} (h : ∀ o ∈ l, opRightB o = true ∧ o.kind ≤ 2) : Same (l.foldl opP []) (afterL l) := Same.nil.ops h
end Go.Proofs.YtlclmpiocbkabaaGreatDoor
