/- Walk of spec.TxRead: what it reads. Condition: the text has at most 65536 bytes. -/
import Derived.Test.YtlclmpiocbkabaaDoorSame
namespace Go.Proofs.YtlclmpiocbkabaaDoor
open Go.RowKit

/-- What stands behind an escape and its bracket, up to the m: what is left, and what is on. -/
def readSeq : List Int → Int → Int → List Int → Option (List Int × List Int)
  | [], _, _, _ => none
  | r :: l, m, d, on =>
    if (decide (48 ≤ r) && decide (r ≤ 57) && decide (d < 3)) = true then readSeq l (10 * m + (r - 48)) (d + 1) on
    else if ((decide (r = 59) || decide (r = 109)) && decide (0 < d)) = true then (if r = 109 then some (l, withC on m) else readSeq l 0 0 (withC on m))
    else none
theorem readSeq_le : ∀ (l : List Int) (m d : Int) (on rest on' : List Int), readSeq l m d on = some (rest, on') → rest.length < l.length
  | [], _, _, _, _, _, h => by simp [readSeq] at h
  | r :: l, m, d, on, rest, on', h => by
    rw [readSeq] at h
    split at h
    · have := readSeq_le l _ _ _ _ _ h; simp; omega
    · split at h
      · split at h
        · simp at h; rw [← h.1]; simp
        · have := readSeq_le l _ _ _ _ _ h; simp; omega
      · cases h

def readAll : List Int → List Int → List (Int × List Int) → Option (List (Int × List Int) × List Int)
  | [], on, cells => some (cells, on)
  | r :: l, on, cells =>
    if r ≠ 27 then readAll l on (cells ++ [(r, on)])
    else match l with
      | [] => none
      | q :: l' => if q ≠ 91 then none else
        match h : readSeq l' 0 0 on with
        | none => none
        | some (rest, on') => have := readSeq_le _ _ _ _ _ _ h; readAll rest on' cells
termination_by l => l.length
decreasing_by all_goals (simp_wf; try omega)

theorem readAll_nil (on : List Int) (cells : List (Int × List Int)) : readAll [] on cells = some (cells, on) := by rw [readAll]
theorem readAll_char {r : Int} (h : r ≠ 27) (l on : List Int) (cells : List (Int × List Int)) : readAll (r :: l) on cells = readAll l on (cells ++ [(r, on)]) := by
  conv => lhs; rw [readAll.eq_def]
  simp only [if_pos h]
theorem readAll_one (on : List Int) (cells : List (Int × List Int)) : readAll [27] on cells = none := by unfold readAll; simp
theorem readAll_bad {q : Int} (h : q ≠ 91) (l on : List Int) (cells : List (Int × List Int)) : readAll (27 :: q :: l) on cells = none := by
  rw [readAll, if_neg (by simp)]; simp only; rw [if_pos h]
theorem readAll_none {l on : List Int} {cells : List (Int × List Int)} (h : readSeq l 0 0 on = none) : readAll (27 :: 91 :: l) on cells = none := by
  rw [readAll, if_neg (by simp)]; simp only; rw [if_neg (by simp)]
  split
  · rfl
  · rename_i h'; rw [h] at h'; cases h'
theorem readAll_some {l on rest on' : List Int} {cells : List (Int × List Int)} (h : readSeq l 0 0 on = some (rest, on')) : readAll (27 :: 91 :: l) on cells = readAll rest on' cells := by
  rw [readAll, if_neg (by simp)]; simp only; rw [if_neg (by simp)]
  split
  · rename_i h'; rw [h] at h'; cases h'
  · rename_i h'; rw [h] at h'; injection h' with h'; injection h' with h1 h2; subst h1; subst h2; rfl
theorem readSeq_digit {r m d : Int} (h1 : 48 ≤ r) (h2 : r ≤ 57) (h3 : d < 3) (l on : List Int) : readSeq (r :: l) m d on = readSeq l (10 * m + (r - 48)) (d + 1) on := by
  rw [readSeq, if_pos (by simp [h1, h2, h3])]
theorem readSeq_semi {m d : Int} (h : 0 < d) (l on : List Int) : readSeq (59 :: l) m d on = readSeq l 0 0 (withC on m) := by
  rw [readSeq, if_neg (by simp), if_pos (by simp [h]), if_neg (by simp)]
theorem readSeq_m {m d : Int} (h : 0 < d) (l on : List Int) : readSeq (109 :: l) m d on = some (l, withC on m) := by
  rw [readSeq, if_neg (by simp), if_pos (by simp [h]), if_pos rfl]
theorem readSeq_bad {r m d : Int} (h1 : ¬ (48 ≤ r ∧ r ≤ 57 ∧ d < 3)) (h2 : ¬ ((r = 59 ∨ r = 109) ∧ 0 < d)) (l on : List Int) : readSeq (r :: l) m d on = none := by
  rw [readSeq, if_neg (by simpa [and_assoc] using h1), if_neg (by simpa using h2)]

def readText (s : ByteArray) : Option (List (Int × List Int) × List Int) := readAll (runes s) [] []

def ReadPost (w : World) (o : Option (List (Int × List Int) × List Int)) (e : Ending) (w' : World) : Prop :=
  Below w.heap.size w w' ∧ match o with
  | none => e = .returned (.tuple #[.slice none 0 0, .slice none 0 0, .bool false])
  | some (cells, on) => ∃ A n c A' n' c', e = .returned (.tuple #[.slice A n c, .slice A' n' c', .bool true]) ∧ CellsAt w' w'.heap.size A n c cells ∧ IntsAt w' w'.heap.size A' n' c' on

def SeqRel (L : List Int) (j0 : Nat) (on0 : List Int) (k : Nat) (m d : Int) (on : List Int) : Bool → Prop
  | false => readSeq (L.drop j0) 0 0 on0 = readSeq (L.drop k) m d on
  | true => readSeq (L.drop j0) 0 0 on0 = some (L.drop k, on)

theorem cellOf {w w1 : World} {g c n : Nat} {L : List Int} {T : TypeId} (h : w1.ownsRow g T 1 (.slice (some ⟨g, 0, none⟩) n c) n (L.map (Value.int .i32))) (hb : Below (g + 1) w1 w) {k : Nat} (hk : k < n) : ∃ x, L[k]? = some x ∧ w.cell? ⟨g, k, none⟩ = some (.int .i32 x) := by
  have hl : L.length = n := by have := h.1; simpa using this
  refine ⟨L[k], List.getElem?_eq_getElem (by omega), ?_⟩
  rw [hb.cell (by simp), World.ownsRow.cellAt h k (by omega), List.getElem?_map, List.getElem?_eq_getElem (by omega)]
  rfl

set_option maxRecDepth 100000 in
set_option maxHeartbeats 4000000 in
theorem read_any (s : ByteArray) (w : World) (hs : s.size ≤ 65536) :
    Calls Tryd.prog 21 #[.string s] w (ReadPost w (readText s)) := by
  obtain ⟨i0, hi, hz0, hz1, hz2⟩ := info_parts infoCell
  obtain ⟨c, w1, hconv, hbw1, hsz1, _, hrun⟩ := run_runes (P := Tryd.prog) w 9 45 21 s Tryd.underlying9 Tryd.underlying45 Tryd.underlying21 (by omega)
  have hnl := runes_length s
  have HT : Hid (readText s = readAll (runes s) [] []) := rfl
  generalize runes s = L at *
  obtain ⟨n, hn⟩ : ∃ n, n = L.length := ⟨_, rfl⟩
  rw [← hn] at hconv hrun hnl
  have HN := Lib.hid hn
  clear hn
  have HRUN := Lib.hid hrun
  have HSZ := Lib.hid hsz1
  clear hrun hsz1
  go_enter Tryd.func21, Tryd.ntmps21
  go_wp2
  go_loopw [5, 6, 8] (fun v5 v6 v8 wr => ∃ (k : Nat) (cells : List (Int × List Int)) (on : List Int), v8 = .int .i64 k ∧ k ≤ n ∧ cells.length ≤ k ∧ on.length ≤ k ∧ Below (w.heap.size + 1) w1 wr ∧ OutRel wr (w.heap.size + 1) 54 3 v5 cells ∧ OwnInts wr 3 v6 on ∧ readText s = readAll (L.drop k) on cells) (fun _ _ v8 _ => n - (intOf v8).toNat)
  case atStart => exact ⟨0, [], [], rfl, Nat.zero_le _, by simp, by simp, Below.refl _ _, OutRel.nil _ _ _ _, OwnInts.nil _ _, HT.out⟩
  case round =>
    obtain ⟨k, cells, on, rfl, hk, hcl, hol, hbw, hout, hon, hacc⟩ := hrel
    have HA := Lib.hid hacc
    have hbW : Below w.heap.size w wr := hbw1.trans (hbw.mono (by omega))
    clear hacc
    have hszr : w.heap.size + 1 ≤ wr.heap.size := by have := hbw.size; have := HSZ.out; omega
    by_cases hlt : k < n
    · obtain ⟨x, hx, hc⟩ := cellOf HRUN.out hbw hlt
      have HX := Lib.hid hx
      clear hx
      by_cases h27 : (x != 27) = true
      · obtain ⟨xs, ho1, ho2⟩ := hout
        obtain ⟨A6, c6, rfl, _⟩ := hon.rd
        have HO2 := Lib.hid ho2
        clear ho2
        go_wp2_with (at_builtin; go_loud (refine wpList_append_own _ rfl _ _ 24 rfl (w.heap.size + 1) 54 i0 (.agg #[.int .i32 0, .slice none 0 0]) 2 32 Tryd.underlying24 hi hz0 hz1 hz2 rfl (by decide) _ _ _ rfl (ho1.alloc _) ⟨wr.heap.size, 0, none⟩ 1 1 [.int .i32 x, .slice A6 on.length c6] rfl rfl ?c1 ?c2 ?c3 ?c4 ?c5 ?_))
        case c1 => exact cell_two _ _ _ _
        case c2 => intro u hu; simp at hu; rcases hu with rfl | rfl <;> rfl
        case c3 => unfold maxLen; omega
        case c4 => omega
        case c5 => simp; omega
        intro v' w2 hown' hgrow _
        obtain ⟨hout2, hon2⟩ := OutRel.snoc (by decide) ho1 HO2.out hon hown' hgrow
        have hbw2 : Below (w.heap.size + 1) w1 w2 := (hbw.alloc hszr _).grown hgrow (by simp; omega) (fun k hk => (World.ownsRow.lt ho1 _ hk).1)
        clear hgrow hown' ho1 hbW hbw
        go_wp2
        go_roundw
        case rel => exact ⟨k + 1, cells ++ [(x, on)], on, by go_num, by omega, by simp; omega, by omega, hbw2, hout2, hon2, by rw [HA.out, drop_step HX.out, readAll_char (by simpa using h27)]⟩
        case measure => simp [intOf]; omega
      · have hx' : (x != 27) = false := by simpa using h27
        have E27 := Lib.hid (show x = 27 by simpa using h27)
        clear h27
        by_cases hl1 : k + 1 < n
        · obtain ⟨y, hy, hcy⟩ := cellOf HRUN.out hbw hl1
          have HY := Lib.hid hy
          clear hy
          by_cases h91 : (y != 91) = true
          · go_wp2
            go_ret3
            refine ⟨hbW, ?_⟩
            rw [HA.out, drop_step HX.out, drop_step HY.out, E27.out, readAll_bad (by simpa using h91)]
            rfl
          · have hy' : (y != 91) = false := by simpa using h91
            have E91 := Lib.hid (show y = 91 by simpa using h91)
            clear h91
            go_wp2
            obtain ⟨wo, rfl⟩ : ∃ wo : World, wo = wr := ⟨_, rfl⟩
            go_loopw [6, 8, 9, 10, 11] (fun v6 v8 v9 v10 v11 wr => ∃ (j : Nat) (on' : List Int) (m d : Int) (e : Bool), v8 = .int .i64 j ∧ v9 = .int .i64 m ∧ v10 = .int .i64 d ∧ v11 = .bool e ∧ k + 2 ≤ j ∧ (j ≤ n ∨ j = k + 2) ∧ 0 ≤ m ∧ m ≤ 999 ∧ 0 ≤ d ∧ d ≤ 3 ∧ (d = 0 → m ≤ 0) ∧ (d = 1 → m ≤ 9) ∧ (d = 2 → m ≤ 99) ∧ on'.length ≤ j ∧ Below (w.heap.size + 1) w1 wr ∧ OutRel wr (w.heap.size + 1) 54 3 u5 cells ∧ OwnInts wr 3 v6 on' ∧ SeqRel L (k + 2) on j m d on' e) (fun _ v8 _ _ _ _ => n - (intOf v8).toNat)
            case atStart => exact ⟨k + 2, on, 0, 0, false, by go_num, rfl, rfl, rfl, by omega, by omega, by omega, by omega, by omega, by omega, by omega, by omega, by omega, by omega, hbw, hout, hon, rfl⟩
            case round =>
              obtain ⟨j, on', m, d, e, rfl, rfl, rfl, rfl, hkj, hjn, hm0, hm1, hd0, hd1, hq0, hq1, hq2, hol', hbwI, houtI, honI, hseq⟩ := hrel
              have hbWI : Below w.heap.size w wr := hbw1.trans (hbwI.mono (by omega))
              have HS := Lib.hid hseq
              clear hseq
              have hszI : w.heap.size + 1 ≤ wr.heap.size := by have := hbwI.size; have := HSZ.out; omega
              by_cases hjl : j < n
              · obtain ⟨z, hz, hcz⟩ := cellOf HRUN.out hbwI hjl
                have HZ := Lib.hid hz
                clear hz
                cases e with
                | true =>
                  go_wp2
                  go_roundw
                  case rel => exact ⟨j, cells, on', by go_num, by omega, by omega, by omega, hbwI, houtI, honI, by rw [HA.out, drop_step HX.out, drop_step HY.out, E27.out, E91.out, readAll_some HS.out]⟩
                  case measure => simp [intOf]; omega
                | false =>
                  by_cases hdig : 48 ≤ z ∧ z ≤ 57 ∧ d < 3
                  · obtain ⟨g1, g2, g3⟩ := hdig
                    go_wp2
                    go_roundw
                    case rel => exact ⟨j + 1, on', 10 * m + (z - 48), d + 1, false, by go_num, by go_num, rfl, rfl, by omega, by omega, by omega, by omega, by omega, by omega, by omega, by omega, by omega, by omega, hbwI, houtI, honI, by have h := HS.out; unfold SeqRel at h ⊢; rw [h, drop_step HZ.out, readSeq_digit g1 g2 g3]⟩
                    case measure => simp [intOf]; omega
                  · by_cases hend : (z = 59 ∨ z = 109) ∧ 0 < d
                    · obtain ⟨hz, hd⟩ := hend
                      clear hdig
                      rcases hz with rfl | rfl
                      · go_wp2_with (go_at_call 38; refine (with_any _ on' m _ (by omega) honI).mono ?_)
                        rintro e w2 ⟨v', rfl, hon2, hb2⟩
                        have hcz2 : w2.cell? ⟨w.heap.size, j, none⟩ = some (.int .i32 59) := by rw [hb2.cell (by simp; omega)]; exact hcz
                        have hout2 := houtI.below hb2 (Nat.le_refl _)
                        have hbw2 : Below (w.heap.size + 1) w1 w2 := hbwI.trans (hb2.mono hszI)
                        have hwl := withC_len on' m
                        clear hcz houtI honI hbwI hbWI
                        go_wp2
                        go_quiet (fail)
                        go_wp2
                        go_roundw
                        case rel => exact ⟨j + 1, withC on' m, 0, 0, false, by go_num, rfl, rfl, rfl, by omega, by omega, by omega, by omega, by omega, by omega, by omega, by omega, by omega, by omega, below_drewN hbw2 _, hout2.drewN _, hon2.drewN _, by have h := HS.out; unfold SeqRel at h ⊢; rw [h, drop_step HZ.out, readSeq_semi hd]⟩
                        case measure => simp [intOf]; omega
                      · go_wp2_with (go_at_call 38; refine (with_any _ on' m _ (by omega) honI).mono ?_)
                        rintro e w2 ⟨v', rfl, hon2, hb2⟩
                        have hcz2 : w2.cell? ⟨w.heap.size, j, none⟩ = some (.int .i32 109) := by rw [hb2.cell (by simp; omega)]; exact hcz
                        have hout2 := houtI.below hb2 (Nat.le_refl _)
                        have hbw2 : Below (w.heap.size + 1) w1 w2 := hbwI.trans (hb2.mono hszI)
                        have hwl := withC_len on' m
                        clear hcz houtI honI hbwI hbWI
                        go_wp2
                        go_quiet (fail)
                        go_wp2
                        go_roundw
                        case rel => exact ⟨j + 1, withC on' m, 0, 0, true, by go_num, rfl, rfl, rfl, by omega, by omega, by omega, by omega, by omega, by omega, by omega, by omega, by omega, by omega, below_drewN hbw2 _, hout2.drewN _, hon2.drewN _, by have h := HS.out; unfold SeqRel at h ⊢; rw [h, drop_step HZ.out, readSeq_m hd]⟩
                        case measure => simp [intOf]; omega
                    · have HF := Lib.hid (show readText s = none by rw [HA.out, drop_step HX.out, drop_step HY.out, E27.out, E91.out]; apply readAll_none; have h := HS.out; unfold SeqRel at h; rw [h, drop_step HZ.out, readSeq_bad hdig hend])
                      have hd3 : ¬ 48 ≤ z ∨ ¬ z ≤ 57 ∨ ¬ d < 3 := by omega
                      have hd4 : (¬ z = 59 ∧ ¬ z = 109) ∨ ¬ 0 < d := by omega
                      clear hdig hend
                      go_wp2_with (first | (go_at_call 38; exfalso; omega))
                      all_goals (first | (exfalso; omega) | (go_ret3; refine ⟨hbWI, ?_⟩; rw [HF.out]; rfl))
              · cases e with
                | true =>
                  go_wp2
                  go_roundw
                  case rel => exact ⟨j, cells, on', by go_num, by omega, by omega, by omega, hbwI, houtI, honI, by rw [HA.out, drop_step HX.out, drop_step HY.out, E27.out, E91.out, readAll_some HS.out]⟩
                  case measure => simp [intOf]; omega
                | false =>
                  go_wp2
                  go_ret3
                  refine ⟨hbWI, ?_⟩
                  rw [HA.out, drop_step HX.out, drop_step HY.out, E27.out, E91.out, readAll_none]
                  · rfl
                  · have h := HS.out; unfold SeqRel at h; rw [h, List.drop_of_length_le (by have := HN.out; omega)]; rfl
        · go_wp2
          go_ret3
          refine ⟨hbW, ?_⟩
          rw [HA.out, drop_step HX.out, List.drop_of_length_le (by have := HN.out; omega), E27.out, readAll_one]
          rfl
    · have e : readText s = some (cells, on) := by rw [HA.out, List.drop_of_length_le (by have := HN.out; omega), readAll_nil]
      obtain ⟨A5, c5, rfl, hr5⟩ := hout.rd
      obtain ⟨A6, c6, rfl, hr6⟩ := hon.rd
      go_wp2
      go_ret3
      refine ⟨hbW, ?_⟩
      rw [e]
      exact ⟨_, _, _, _, _, _, rfl, hr5, hr6⟩
end Go.Proofs.YtlclmpiocbkabaaDoor
