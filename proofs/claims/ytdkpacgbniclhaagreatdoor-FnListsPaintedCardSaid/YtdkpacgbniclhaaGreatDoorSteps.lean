/- Plain words on memory: a slice of steps of a list; and the walks of laws.zzFits11 and spec.LtRight: what they answer. No condition. -/
import Derived.Test.YtdkpacgbniclhaaGreatDoorFits
import Derived.Test.YtdkpacgbniclhaaGreatDoorSimple
import Derived.Test.YtdkpacgbniclhaaGreatDoorSame
namespace Go.Proofs.YtdkpacgbniclhaaGreatDoor
open Go.RowKit

structure Step where
  kind : Int
  text : ByteArray
  texts : List ByteArray

def StepsAt (w : World) (B : Nat) (A : Option Addr) (n c : Nat) (l : List Step) : Prop :=
  ∃ xs, Rd w B 3 A n c xs ∧ l.length = n ∧ ∀ k s, l[k]? = some s → ∃ A' n' c', xs[3 * k]? = some (.int .i64 s.kind) ∧ xs[3 * k + 1]? = some (.string s.text) ∧ xs[3 * k + 2]? = some (.slice A' n' c') ∧ StrsAt w B A' n' c' s.texts

section
variable {w w' : World} {B B' n c k : Nat} {A : Option Addr} {l : List Step}
theorem StepsAt.below (h : StepsAt w B A n c l) (hb : Below B w w') : StepsAt w' B A n c l := by
  obtain ⟨xs, h1, h2, h3⟩ := h
  refine ⟨xs, h1.below hb, h2, fun k s hk => ?_⟩
  obtain ⟨A', n', c', a, b, c1, d⟩ := h3 k s hk
  exact ⟨A', n', c', a, b, c1, d.below hb⟩
theorem StepsAt.more (h : StepsAt w B A n c l) (hB : B ≤ B') : StepsAt w B' A n c l := by
  obtain ⟨xs, h1, h2, h3⟩ := h
  refine ⟨xs, h1.more hB, h2, fun k s hk => ?_⟩
  obtain ⟨A', n', c', a, b, c1, d⟩ := h3 k s hk
  exact ⟨A', n', c', a, b, c1, d.more hB⟩
theorem StepsAt.small (h : StepsAt w B A n c l) : n ≤ 9223372036854775807 := by
  obtain ⟨xs, h1, _⟩ := h
  have := h1.cap; have := h1.small; omega
theorem StepsAt.len (h : StepsAt w B A n c l) : l.length = n := by
  obtain ⟨xs, _, h2, _⟩ := h
  exact h2
theorem StepsAt.at_ (h : StepsAt w B A n c l) (hk : k < n) :
    ∃ ad s A' n' c', A = some ad ∧ ad.block < B ∧ l[k]? = some s ∧ w.cell? (ad.add (k * 3)) = some (.int .i64 s.kind) ∧ w.cell? ⟨(ad.add (k * 3)).block, (ad.add (k * 3)).off + 1, none⟩ = some (.string s.text) ∧ w.cell? ⟨(ad.add (k * 3)).block, (ad.add (k * 3)).off + 2, none⟩ = some (.slice A' n' c') ∧ StrsAt w B A' n' c' s.texts := by
  obtain ⟨xs, h1, h2, h3⟩ := h
  obtain ⟨ad, e, hb, hc⟩ := h1.cells (by omega)
  obtain ⟨A', n', c', a, b, c1, d⟩ := h3 k l[k] (List.getElem?_eq_getElem (by omega))
  exact ⟨ad, l[k], A', n', c', e, hb, List.getElem?_eq_getElem (by omega), by rw [Nat.mul_comm k 3]; exact hc _ _ a, by rw [← add_step, Nat.mul_comm k 3]; exact hc _ _ b, by rw [← add_step, Nat.mul_comm k 3]; exact hc _ _ c1, d⟩
end

def fitStepB (s : Step) : Bool := decide (s.text.size ≤ 2147483647) && fitsB s.texts
set_option maxHeartbeats 1000000 in
theorem fitStep_any (s : Step) (A : Option Addr) (n c : Nat) (w : World) (h : StrsAt w w.heap.size A n c s.texts) :
    Calls Tryz.prog 36 #[.agg #[.int .i64 s.kind, .string s.text, .slice A n c]] w fun e w' => e = .returned (.bool (fitStepB s)) ∧ Below w.heap.size w w' := by
  obtain ⟨kd, tx, ts⟩ := s
  have h' := Rd.alloc h (Nat.le_refl _) (.cells #[.int .i64 kd, .string tx, .slice A n c] 66)
  by_cases h1 : tx.size ≤ 2147483647
  · have HB := Lib.hid (show fitStepB ⟨kd, tx, ts⟩ = fitsB ts by unfold fitStepB; rw [decide_eq_true h1]; rfl)
    go_enter Tryz.func36, Tryz.ntmps36
    go_wp2_with fail
    refine (fits_any _ _ _ ts _ w.heap.size h').mono ?_
    rintro e w1 ⟨rfl, rfl⟩
    generalize fitsB ts = b at *
    cases b
    · go_wp2
      go_ret
      exact ⟨ret_bool (by rw [HB.out]), (Below.refl _ w).alloc (Nat.le_refl _) _⟩
    · go_wp2
      go_ret
      exact ⟨ret_bool (by rw [HB.out]), (Below.refl _ w).alloc (Nat.le_refl _) _⟩
  · have HB := Lib.hid (show fitStepB ⟨kd, tx, ts⟩ = false by unfold fitStepB; rw [decide_eq_false h1]; rfl)
    go_enter Tryz.func36, Tryz.ntmps36
    go_wp2
    go_ret
    exact ⟨ret_bool (by rw [HB.out]), (Below.refl _ w).alloc (Nat.le_refl _) _⟩

def fitStepsB (l : List Step) : Bool := decide (l.length ≤ 2147483647) && l.all fitStepB
theorem box_cell (w : World) (cs : Array Value) (t : TypeId) (i : Nat) : (w.alloc (.cells cs t)).cell? ⟨w.heap.size, i, none⟩ = cs[i]? := cell_of_row _ _ i cs t (0, 0) (heap_alloc_new w _)
theorem step_eta (s : Step) : (⟨s.kind, s.text, s.texts⟩ : Step) = s := rfl

set_option maxHeartbeats 2000000 in
theorem fitSteps_any (A : Option Addr) (n c : Nat) (l : List Step) (w : World) (h : StepsAt w w.heap.size A n c l) :
    Calls Tryz.prog 8 #[.slice A n c] w fun e w' => e = .returned (.bool (fitStepsB l)) ∧ Below w.heap.size w w' := by
  have hm := h.small
  have HL := Lib.hid h.len
  by_cases h0 : n ≤ 2147483647
  · have HB := Lib.hid (show fitStepsB l = l.all fitStepB by unfold fitStepsB; rw [HL.out, decide_eq_true h0]; rfl)
    go_enter Tryz.func8, Tryz.ntmps8
    go_wp2
    go_loopw [10] (fun i wr => ∃ k : Nat, k ≤ n ∧ i = .int .i64 k ∧ Hid (l.all fitStepB = (l.drop k).all fitStepB) ∧ Below w.heap.size w wr) (fun i _ => n - (intOf i).toNat)
    case atStart => exact ⟨0, Nat.zero_le _, rfl, Lib.hid rfl, Below.refl _ _⟩
    case round =>
      obtain ⟨k, hk, rfl, HR, hbw⟩ := hrel
      have hsz := hbw.size
      by_cases hlt : k < n
      · obtain ⟨ad, s, A', n', c', rfl, _, hy, hc0, hc1, hc2, hst⟩ := (h.below hbw).at_ hlt
        have hk1 : (k : Int) < (n : Int) := by omega
        have HY := Lib.hid hy
        have hb1 := (Below.refl wr.heap.size wr).alloc (Nat.le_refl _) (.cells #[.int .i64 s.kind, .string s.text, .slice A' n' c'] 66)
        have hst2 := ((hst.more hsz).below hb1).more hb1.size
        clear hy hst
        go_wp2_with fail
        refine (fitStep_any s A' n' c' _ hst2).mono ?_
        rintro e w2 ⟨rfl, hb2⟩
        have hbw2 := hbw.trans ((hb1.trans (hb2.mono hb1.size)).mono hsz)
        clear hb1 hb2 hst2 hbw
        cases hb : fitStepB s with
        | true =>
          have HS := Lib.hid hb
          clear hb
          go_wp2
          go_roundw
          case rel => exact ⟨k + 1, by omega, by go_num, Lib.hid (by rw [HR.out, drop_step HY.out, List.all_cons, HS.out]; rfl), hbw2⟩
          case measure => simp [intOf]; omega
        | false =>
          have HS := Lib.hid hb
          clear hb
          go_wp2
          go_ret
          exact ⟨ret_bool (by rw [HB.out, HR.out, drop_step HY.out, List.all_cons, HS.out]; rfl), hbw2⟩
      · go_wp2
        go_ret
        exact ⟨ret_bool (by rw [HB.out, HR.out, List.drop_of_length_le (by rw [HL.out]; omega)]; rfl), hbw⟩
  · have HB := Lib.hid (show fitStepsB l = false by unfold fitStepsB; rw [HL.out, decide_eq_false h0]; rfl)
    go_enter Tryz.func8, Tryz.ntmps8
    go_wp2
    go_ret
    exact ⟨ret_bool (by rw [HB.out]), Below.refl _ _⟩

def textB (t : ByteArray) : Bool := decide (t.size ≤ 200) && simpleB t true
def stepRightB (s : Step) : Bool := textB s.text && (decide (s.texts.length ≤ 10) && s.texts.all textB)
def rightB (l : List Step) : Bool := l.all stepRightB && decide (l.length ≤ 80)

set_option maxRecDepth 100000 in
set_option maxHeartbeats 4000000 in
theorem right_any (A : Option Addr) (n c : Nat) (l : List Step) (w : World) (h : StepsAt w w.heap.size A n c l) :
    Calls Tryz.prog 10 #[.slice A n c] w fun e w' => e = .returned (.bool (rightB l)) ∧ Below w.heap.size w w' := by
  have hm := h.small
  have HL := Lib.hid h.len
  go_enter Tryz.func10, Tryz.ntmps10
  go_wp2
  go_loopw [9] (fun i wr => ∃ k : Nat, k ≤ n ∧ i = .int .i64 k ∧ Hid (l.all stepRightB = (l.drop k).all stepRightB) ∧ Below w.heap.size w wr) (fun i _ => n - (intOf i).toNat)
  case atStart => exact ⟨0, Nat.zero_le _, rfl, Lib.hid rfl, Below.refl _ _⟩
  case round =>
    obtain ⟨k, hk, rfl, HR, hbw⟩ := hrel
    have hsz := hbw.size
    by_cases hlt : k < n
    · obtain ⟨ad, s, A', n', c', rfl, _, hy, hc0, hc1, hc2, hst⟩ := (h.below hbw).at_ hlt
      have hk1 : (k : Int) < (n : Int) := by omega
      have HY := Lib.hid hy
      have hb1 := (Below.refl wr.heap.size wr).alloc (Nat.le_refl _) (.cells #[.int .i64 s.kind, .string s.text, .slice A' n' c'] 66)
      have hst2 := ((hst.more hsz).below hb1).more hb1.size
      have hln := Lib.hid hst.len
      have hn63 : n' ≤ 9223372036854775807 := by have := Rd.cap hst; have := Rd.small hst; omega
      have HF : stepRightB s = false → Hid (rightB l = false) := fun e => Lib.hid (by unfold rightB; rw [HR.out, drop_step HY.out, List.all_cons, e]; rfl)
      have hbwA := hbw.trans (hb1.mono hsz)
      clear hy hst
      by_cases q1 : s.text.size ≤ 200
      case neg =>
        have HX := HF (by unfold stepRightB textB; rw [decide_eq_false q1]; rfl)
        clear HF
        go_wp2_with fail
        go_wp2
        go_ret
        exact ⟨ret_bool (by rw [HX.out]), hbwA⟩
      cases q2 : simpleB s.text true with
      | false =>
        have HX := HF (by unfold stepRightB textB; rw [q2]; simp)
        have Q2 := Lib.hid q2
        clear HF q2
        go_wp2_with fail
        refine (simple_any s.text true _).mono ?_
        rintro e w2 ⟨rfl, hb2⟩
        have hbw2 := hbw.trans ((hb1.trans (hb2.mono hb1.size)).mono hsz)
        rw [Q2.out]
        go_wp2
        go_ret
        exact ⟨ret_bool (by rw [HX.out]), hbw2⟩
      | true =>
        have HT := Lib.hid (show textB s.text = true by unfold textB; rw [decide_eq_true q1, q2]; rfl)
        have Q2 := Lib.hid q2
        clear q2
        by_cases q3 : n' ≤ 10
        case neg =>
          have HX := HF (by unfold stepRightB; rw [hln.out, decide_eq_false q3]; simp)
          clear HF
          go_wp2_with fail
          refine (simple_any s.text true _).mono ?_
          rintro e w2 ⟨rfl, hb2⟩
          have hbw2 := hbw.trans ((hb1.trans (hb2.mono hb1.size)).mono hsz)
          have hq2 := (hb2.cell (p := ⟨wr.heap.size, 2, none⟩) (by simp)).trans (box_cell wr _ _ 2)
          rw [Q2.out]
          clear hbwA hbw hb1 hb2 hst2 hc0 hc1 hc2
          go_wp2
          go_ret
          exact ⟨ret_bool (by rw [HX.out]), hbw2⟩
        obtain ⟨wo, rfl⟩ : ∃ wo : World, wo = wr := ⟨_, rfl⟩
        go_wp2_with fail
        refine (simple_any s.text true _).mono ?_
        rintro e w2 ⟨rfl, hb2⟩
        have hbw2 := hbw.trans ((hb1.trans (hb2.mono hb1.size)).mono hsz)
        have hq2 := (hb2.cell (p := ⟨wo.heap.size, 2, none⟩) (by simp)).trans (box_cell wo _ _ 2)
        have hst3 := (hst2.below hb2).more hb2.size
        rw [Q2.out]
        clear hbwA hbw hb1 hb2 hst2 hc0 hc1 hc2
        have hsz2 := hbw2.size
        go_wp2_with fail
        go_loopw [32] (fun i wv => ∃ j : Nat, j ≤ n' ∧ i = .int .i64 j ∧ Hid (s.texts.all textB = (s.texts.drop j).all textB) ∧ Below w2.heap.size w2 wv) (fun i _ => n' - (intOf i).toNat)
        case atStart => exact ⟨0, Nat.zero_le _, rfl, Lib.hid rfl, Below.refl _ _⟩
        case round =>
          obtain ⟨j, hj, rfl, HRJ, hbv⟩ := hrel
          have hbwv := hbw2.trans (hbv.mono hsz2)
          by_cases hlt2 : j < n'
          · obtain ⟨ad2, y, rfl, _, hy2, hcy⟩ := (hst3.below hbv).at_ hlt2
            have HY2 := Lib.hid hy2
            clear hy2
            have HF2 : textB y = false → Hid (rightB l = false) := fun e => HF (by unfold stepRightB; rw [HRJ.out, drop_step HY2.out, List.all_cons, e]; simp)
            clear HF
            by_cases r1 : y.size ≤ 200
            case neg =>
              have HX := HF2 (by unfold textB; rw [decide_eq_false r1]; rfl)
              clear HF2
              go_wp2_with fail
              go_wp2
              go_ret
              exact ⟨ret_bool (by rw [HX.out]), hbwv⟩
            cases r2 : simpleB y true with
            | false =>
              have HX := HF2 (by unfold textB; rw [r2]; simp)
              have R2 := Lib.hid r2
              clear HF2 r2
              go_wp2_with fail
              refine (simple_any y true _).mono ?_
              rintro e w4 ⟨rfl, hb4⟩
              have hbw4 := hbwv.trans (hb4.mono hbwv.size)
              rw [R2.out]
              go_wp2
              go_ret
              exact ⟨ret_bool (by rw [HX.out]), hbw4⟩
            | true =>
              have HTY := Lib.hid (show textB y = true by unfold textB; rw [decide_eq_true r1, r2]; rfl)
              have R2 := Lib.hid r2
              clear HF2 r2
              go_wp2_with fail
              refine (simple_any y true _).mono ?_
              rintro e w4 ⟨rfl, hb4⟩
              have hbv4 := hbv.trans (hb4.mono hbv.size)
              rw [R2.out]
              clear hbv hb4 hbwv
              go_wp2
              go_roundw
              case rel => exact ⟨j + 1, by omega, by go_num, Lib.hid (by rw [HRJ.out, drop_step HY2.out, List.all_cons, HTY.out]; rfl), hbv4⟩
              case measure => simp [intOf]; omega
          · have HS := Lib.hid (show stepRightB s = true by
              unfold stepRightB
              rw [HT.out, hln.out, decide_eq_true q3, HRJ.out, List.drop_of_length_le (by rw [hln.out]; omega)]; rfl)
            clear HF hbv
            go_wp2
            go_roundw
            case rel => exact ⟨k + 1, by omega, by go_num, Lib.hid (by rw [HR.out, drop_step HY.out, List.all_cons, HS.out]; rfl), hbwv⟩
            case measure => simp [intOf]; omega
    · have HB := Lib.hid (show rightB l = decide (n ≤ 80) by unfold rightB; rw [HR.out, List.drop_of_length_le (by rw [HL.out]; omega), HL.out]; rfl)
      go_wp2
      go_ret
      exact ⟨ret_bool (by rw [HB.out]; simp; omega), hbw⟩
end Go.Proofs.YtdkpacgbniclhaaGreatDoor
