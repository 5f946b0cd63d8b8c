/- Walk of spec.TxGood: what it answers. No condition. -/
import Derived.Test.YtlclmpiocbkabaaDoorPieces
namespace Go.Proofs.YtlclmpiocbkabaaDoor
open Go.RowKit

def codeB (n : Nat) (c : Int) : Bool := attrB c || (decide (c = 0) && decide (n ≤ 1))
def goodB (b : Bool) (s : Piece) : Bool := simpleB s.text b && (decide (s.text.size ≤ 500) && (decide (s.codes.length ≤ 4) && s.codes.all (codeB s.codes.length)))
def goodPiecesB (b : Bool) (l : List Piece) : Bool := l.all (goodB b) && decide (l.length ≤ 40)
theorem box_cell2 (w : World) (cs : Array Value) (t : TypeId) (i : Nat) : (w.alloc (.cells cs t)).cell? ⟨w.heap.size, i, none⟩ = cs[i]? := cell_of_row _ _ i cs t (0, 0) (heap_alloc_new w _)

set_option maxRecDepth 100000 in
set_option maxHeartbeats 4000000 in
theorem good_any (A : Option Addr) (n c : Nat) (l : List Piece) (b : Bool) (w : World) (h : PiecesAt w w.heap.size A n c l) :
    Calls Tryd.prog 19 #[.slice A n c, .bool b] w fun e w' => e = .returned (.bool (goodPiecesB b l)) ∧ Below w.heap.size w w' := by
  have hm := h.small
  have HL := Lib.hid h.len
  go_enter Tryd.func19, Tryd.ntmps19
  go_wp2
  go_loopw [11] (fun i wr => ∃ k : Nat, k ≤ n ∧ i = .int .i64 k ∧ Hid (l.all (goodB b) = (l.drop k).all (goodB b)) ∧ Below w.heap.size w wr) (fun i _ => n - (intOf i).toNat)
  case atStart => exact ⟨0, Nat.zero_le _, rfl, Lib.hid rfl, Below.refl _ _⟩
  case round =>
    obtain ⟨k, hk, rfl, HR, hbw⟩ := hrel
    have hsz := hbw.size
    by_cases hlt : k < n
    · obtain ⟨ad, s, A', n', c', rfl, _, hy, hc0, hc1, hst⟩ := (h.below hbw).at_ hlt
      have hk1 : (k : Int) < (n : Int) := by omega
      have HY := Lib.hid hy
      have hb1 := (Below.refl wr.heap.size wr).alloc (Nat.le_refl _) (.cells #[.slice A' n' c', .string s.text] 47)
      have hst2 := ((hst.more hsz).below hb1).more hb1.size
      have hln := Lib.hid hst.len
      have hn63 : n' ≤ 9223372036854775807 := (PiecesAt.codes63 hst).2
      have HF : goodB b s = false → Hid (goodPiecesB b l = false) := fun e => Lib.hid (by unfold goodPiecesB; rw [HR.out, drop_step HY.out, List.all_cons, e]; rfl)
      clear hy hst
      obtain ⟨wo, rfl⟩ : ∃ wo : World, wo = wr := ⟨_, rfl⟩
      cases q1 : simpleB s.text b with
      | false =>
        have HX := HF (by unfold goodB; rw [q1]; rfl)
        have Q1 := Lib.hid q1
        clear HF q1
        go_wp2_with fail
        refine (simple_any s.text b _).mono ?_
        rintro e w2 ⟨rfl, hb2⟩
        have hbw2 := hbw.trans ((hb1.trans (hb2.mono hb1.size)).mono hsz)
        rw [Q1.out]
        clear hb1 hb2 hbw hst2 hc0 hc1
        go_wp2
        go_ret
        exact ⟨ret_bool (by rw [HX.out]), hbw2⟩
      | true =>
        have Q1 := Lib.hid q1
        clear q1
        go_wp2_with fail
        refine (simple_any s.text b _).mono ?_
        rintro e w2 ⟨rfl, hb2⟩
        have hbw2 := hbw.trans ((hb1.trans (hb2.mono hb1.size)).mono hsz)
        have hq0 := (hb2.cell (p := ⟨wo.heap.size, 0, none⟩) (by simp)).trans (box_cell2 wo _ _ 0)
        have hq1 := (hb2.cell (p := ⟨wo.heap.size, 1, none⟩) (by simp)).trans (box_cell2 wo _ _ 1)
        have hst3 := (hst2.below hb2).more hb2.size
        rw [Q1.out]
        clear hb1 hb2 hbw hst2 hc0 hc1
        have hsz2 := hbw2.size
        by_cases q2 : s.text.size ≤ 500
        case neg =>
          have HX := HF (by unfold goodB; rw [decide_eq_false q2]; simp)
          clear HF
          go_wp2_with fail
          go_wp2
          go_ret
          exact ⟨ret_bool (by rw [HX.out]), hbw2⟩
        by_cases q3 : n' ≤ 4
        case neg =>
          have HX := HF (by unfold goodB; rw [hln.out, decide_eq_false q3]; simp)
          clear HF
          go_wp2_with fail
          go_wp2
          go_ret
          exact ⟨ret_bool (by rw [HX.out]), hbw2⟩
        go_wp2_with fail
        go_loop [35] (fun i => ∃ j : Nat, j ≤ n' ∧ i = .int .i64 j ∧ Hid (s.codes.all (codeB n') = (s.codes.drop j).all (codeB n'))) (fun i => n' - (intOf i).toNat)
        case atStart => exact ⟨0, Nat.zero_le _, rfl, Lib.hid rfl⟩
        case round =>
          obtain ⟨j, hj, rfl, HRJ⟩ := hrel
          by_cases hlt2 : j < n'
          · obtain ⟨ad2, y, rfl, _, hy2, hcy⟩ := hst3.at_ hlt2
            have HY2 := Lib.hid hy2
            clear hy2
            have HF2 : codeB n' y = false → Hid (goodPiecesB b l = false) := fun e => HF (by unfold goodB; rw [hln.out, HRJ.out, drop_step HY2.out, List.all_cons, e]; simp)
            cases r1 : attrB y with
            | true =>
              have R1 := Lib.hid r1
              have HC := Lib.hid (show codeB n' y = true by unfold codeB; rw [r1]; rfl)
              clear HF2 HF r1
              go_wp2_with fail
              refine (attr_any y _).mono ?_
              rintro e w4 ⟨rfl, rfl⟩
              rw [R1.out]
              go_wp2
              go_round
              case rel => exact ⟨j + 1, by omega, by go_num, Lib.hid (by rw [HRJ.out, drop_step HY2.out, List.all_cons, HC.out]; rfl)⟩
              case measure => simp [intOf]; omega
            | false =>
              have R1 := Lib.hid r1
              by_cases r2 : y = 0
              · by_cases r3 : n' ≤ 1
                · have HC := Lib.hid (show codeB n' y = true by unfold codeB; rw [r1, decide_eq_true r2, decide_eq_true r3]; rfl)
                  have hy0 : (y != 0) = false := by rw [r2]; rfl
                  clear HF2 HF r1 r2
                  go_wp2_with fail
                  refine (attr_any y _).mono ?_
                  rintro e w4 ⟨rfl, rfl⟩
                  rw [R1.out]
                  go_wp2
                  go_round
                  case rel => exact ⟨j + 1, by omega, by go_num, Lib.hid (by rw [HRJ.out, drop_step HY2.out, List.all_cons, HC.out]; rfl)⟩
                  case measure => simp [intOf]; omega
                · have HX := HF2 (by unfold codeB; rw [r1, decide_eq_false r3]; simp)
                  have hy0 : (y != 0) = false := by rw [r2]; rfl
                  clear HF2 HF r1 r2
                  go_wp2_with fail
                  refine (attr_any y _).mono ?_
                  rintro e w4 ⟨rfl, rfl⟩
                  rw [R1.out]
                  go_wp2
                  go_ret
                  exact ⟨ret_bool (by rw [HX.out]), hbw2⟩
              · have HX := HF2 (by unfold codeB; rw [r1, decide_eq_false r2]; rfl)
                have hy0 : (y != 0) = true := by rw [bne_iff_ne]; exact r2
                clear HF2 HF r1 r2
                go_wp2_with fail
                refine (attr_any y _).mono ?_
                rintro e w4 ⟨rfl, rfl⟩
                rw [R1.out]
                go_wp2
                go_ret
                exact ⟨ret_bool (by rw [HX.out]), hbw2⟩
          · have HS := Lib.hid (show goodB b s = true by
              unfold goodB
              rw [Q1.out, decide_eq_true q2, hln.out, decide_eq_true q3, HRJ.out, List.drop_of_length_le (by rw [hln.out]; omega)]; rfl)
            clear HF
            go_wp2
            go_roundw
            case rel => exact ⟨k + 1, by omega, by go_num, Lib.hid (by rw [HR.out, drop_step HY.out, List.all_cons, HS.out]; rfl), hbw2⟩
            case measure => simp [intOf]; omega
    · have HB := Lib.hid (show goodPiecesB b l = decide (n ≤ 40) by unfold goodPiecesB; rw [HR.out, List.drop_of_length_le (by rw [HL.out]; omega), HL.out]; rfl)
      go_wp2
      go_ret
      exact ⟨ret_bool (by rw [HB.out]; simp; omega), hbw⟩
end Go.Proofs.YtlclmpiocbkabaaDoor
