/- Walk of spec.LtPlayed: which items some steps make. Condition: the steps have not more items than the bound that is named. -/
import Derived.Test.YtdkpacgbniclhaaGreatDoorSteps
import Derived.Test.YtdkpacgbniclhaaGreatDoorPrint
namespace Go.Proofs.YtdkpacgbniclhaaGreatDoor
open Go.RowKit

/-- What a step makes of the items (text, level) and the level. -/
def lastLevel (out : List (ByteArray × Nat)) : Nat := match out.getLast? with | some x => x.2 | none => 0
def playStep (st : List (ByteArray × Nat) × Nat) (s : Step) : List (ByteArray × Nat) × Nat :=
  if s.kind = 0 then (st.1 ++ [(s.text, st.2)], st.2)
  else if s.kind = 1 then (st.1 ++ s.texts.map (fun t => (t, st.2)), st.2)
  else if s.kind = 2 then (if 0 < st.1.length ∧ st.2 ≤ lastLevel st.1 then (st.1, st.2 + 1) else st)
  else if s.kind = 3 then (st.1, st.2 - 1)
  else if s.kind = 4 then (st.1, 0)
  else if s.kind = 5 then ([], 0)
  else st
def playK (l : List Step) (k : Nat) : List (ByteArray × Nat) × Nat := (l.take k).foldl playStep ([], 0)
def played (l : List Step) : List (ByteArray × Nat) := (l.foldl playStep ([], 0)).1
theorem playK_step {l : List Step} {k : Nat} {s : Step} (h : l[k]? = some s) : playK l (k + 1) = playStep (playK l k) s := by
  unfold playK; rw [take_step h, List.foldl_append]; rfl
theorem playK_all {l : List Step} {k : Nat} (h : l.length ≤ k) : playK l k = l.foldl playStep ([], 0) := by
  unfold playK; rw [List.take_of_length_le h]

/-- How many items some steps make at most. -/
def cost (l : List Step) : Nat := (l.map fun s => s.texts.length + 1).sum
theorem cost_step {l : List Step} {k : Nat} {s : Step} (h : l[k]? = some s) : cost (l.take (k + 1)) = cost (l.take k) + (s.texts.length + 1) := by
  unfold cost; rw [take_step h, List.map_append, List.sum_append]; simp
theorem cost_take (l : List Step) (k : Nat) : cost (l.take k) ≤ cost l := by
  conv => rhs; rw [← List.take_append_drop k l]
  unfold cost; rw [List.map_append, List.sum_append]; omega
theorem play_size (l : List Step) : ∀ k : Nat, (playK l k).1.length ≤ cost (l.take k) ∧ (playK l k).2 ≤ k := by
  intro k
  induction k with
  | zero => simp [playK]
  | succ k ih =>
    cases h : l[k]? with
    | none =>
      have hl : l.length ≤ k := by
        rcases Nat.lt_or_ge k l.length with h1 | h1
        · rw [List.getElem?_eq_getElem h1] at h; cases h
        · exact h1
      rw [playK_all (by omega), ← playK_all hl, List.take_of_length_le (by omega)]
      rw [List.take_of_length_le hl] at ih
      omega
    | some s =>
      rw [playK_step h, cost_step h]
      generalize playK l k = st at *
      unfold playStep
      split
      · simp; omega
      · split
        · simp; omega
        · split
          · split
            · simp; omega
            · omega
          · split
            · simp; omega
            · split
              · simp; omega
              · split
                · simp
                · omega

def flatI (l : List (ByteArray × Nat)) : List Value := l.flatMap fun x => [.string x.1, .int .i64 x.2]
theorem flatI_snoc (l : List (ByteArray × Nat)) (x : ByteArray × Nat) : flatI (l ++ [x]) = flatI l ++ [.string x.1, .int .i64 x.2] := by simp [flatI]
theorem flatI_len (l : List (ByteArray × Nat)) : (flatI l).length = l.length * 2 := by
  induction l with
  | nil => rfl
  | cons x l ih => simp [flatI] at *; omega
theorem flatI_last {l : List (ByteArray × Nat)} (h : 0 < l.length) : (flatI l)[(l.length - 1) * 2 + 1]? = some (.int .i64 (lastLevel l)) := by
  obtain ⟨r, x, rfl⟩ : ∃ r x, l = r ++ [x] := by
    have hne : l ≠ [] := by intro e; rw [e] at h; simp at h
    exact ⟨l.dropLast, l.getLast hne, (List.dropLast_concat_getLast hne).symm⟩
  rw [flatI_snoc, List.length_append]
  simp only [List.length_cons, List.length_nil, Nat.zero_add, Nat.add_sub_cancel]
  rw [List.getElem?_append_right (by rw [flatI_len]; omega), flatI_len, Nat.add_sub_cancel_left]
  simp [lastLevel]

theorem infoItem : (Tryz.prog.info? 31).map (fun i => (i.zero, i.size, i.bytes)) = some (some (.agg #[.string ⟨#[]⟩, .int .i64 0]), 2, 24) := by kernel_rfl
/-- A row of items of the program's own make. -/
def OwnItems (w : World) (B : Nat) (v : Value) (l : List (ByteArray × Nat)) : Prop := w.ownsRow B 31 2 v l.length (flatI l)

theorem own_item_cell {w : World} {B g cap : Nat} {l : List (ByteArray × Nat)} (h : w.ownsRow B 31 2 (.slice (some ⟨g, 0, none⟩) l.length cap) l.length (flatI l)) (hl : 0 < l.length) : w.cell? ⟨g, (l.length - 1) * 2 + 1, none⟩ = some (.int .i64 (lastLevel l)) := by
  rw [h.cellAt _ (by omega), flatI_last hl]

theorem cell_two_at (w : World) (x y : Value) (t : TypeId) (g : Nat) (hg : g = w.heap.size) : ∀ j u, [x, y][j]? = some u → (w.alloc (.cells #[x, y] t)).cell? ((⟨g, 0, none⟩ : Addr).add j) = some u := by
  subst hg; exact cell_two w x y t
theorem pair_one (t : ByteArray) (x : Int) : ∀ u ∈ [Value.string t, .int .i64 x], u.oneCell' = true := by
  intro u hu
  rcases List.mem_cons.1 hu with rfl | hu
  · rfl
  · rcases List.mem_cons.1 hu with rfl | hu
    · rfl
    · cases hu

theorem play0 {st : List (ByteArray × Nat) × Nat} {s : Step} (h : (s.kind == 0) = true) : playStep st s = (st.1 ++ [(s.text, st.2)], st.2) := by
  simp at h; simp [playStep, h]
theorem play1 {st : List (ByteArray × Nat) × Nat} {s : Step} (h : (s.kind == 1) = true) : playStep st s = (st.1 ++ s.texts.map (fun t => (t, st.2)), st.2) := by
  simp at h; simp [playStep, h]
theorem play2 {st : List (ByteArray × Nat) × Nat} {s : Step} (h : (s.kind == 2) = true) : playStep st s = if 0 < st.1.length ∧ st.2 ≤ lastLevel st.1 then (st.1, st.2 + 1) else st := by
  simp at h; simp [playStep, h]
theorem play3 {st : List (ByteArray × Nat) × Nat} {s : Step} (h : (s.kind == 3) = true) : playStep st s = (st.1, st.2 - 1) := by
  simp at h; simp [playStep, h]
theorem play4 {st : List (ByteArray × Nat) × Nat} {s : Step} (h : (s.kind == 4) = true) : playStep st s = (st.1, 0) := by
  simp at h; simp [playStep, h]
theorem play5 {st : List (ByteArray × Nat) × Nat} {s : Step} (h : (s.kind == 5) = true) : playStep st s = ([], 0) := by
  simp at h; simp [playStep, h]
theorem play6 {st : List (ByteArray × Nat) × Nat} {s : Step} (h0 : (s.kind == 0) = false) (h1 : (s.kind == 1) = false) (h2 : (s.kind == 2) = false) (h3 : (s.kind == 3) = false) (h4 : (s.kind == 4) = false) (h5 : (s.kind == 5) = false) : playStep st s = st := by
  simp at h0 h1 h2 h3 h4 h5; simp [playStep, h0, h1, h2, h3, h4, h5]

set_option maxRecDepth 100000 in
set_option maxHeartbeats 4000000 in
theorem played_any (A : Option Addr) (n c : Nat) (l : List Step) (w : World) (h : StepsAt w w.heap.size A n c l) (hC : cost l ≤ 1099511627776) :
    Calls Tryz.prog 13 #[.slice A n c] w fun e w' => ∃ v, e = .returned v ∧ OwnItems w' w.heap.size v (played l) ∧ Below w.heap.size w w' := by
  have hm := h.small
  have HL := Lib.hid h.len
  have HC := Lib.hid hC
  clear hC
  obtain ⟨i0, hi, hz0, hz1, hz2⟩ := info_parts infoItem
  go_enter Tryz.func13, Tryz.ntmps13
  go_wp2
  go_loopw [3, 4, 11] (fun v3 v4 v11 wr => ∃ (k : Nat) (out : List (ByteArray × Nat)) (lv : Nat), k ≤ n ∧ v11 = .int .i64 k ∧ v4 = .int .i64 lv ∧ wr.ownsRow w.heap.size 31 2 v3 out.length (flatI out) ∧ Below w.heap.size w wr ∧ Hid (playK l k = (out, lv))) (fun _ _ v11 _ => n - (intOf v11).toNat)
  case atStart => exact ⟨0, [], 0, Nat.zero_le _, rfl, rfl, World.ownsRow_nil _ _ _ _, Below.refl _ _, Lib.hid rfl⟩
  case round =>
    obtain ⟨k, out, lv, hk, rfl, rfl, hown, hbw, HP⟩ := hrel
    have hsz := hbw.size
    by_cases hlt : k < n
    · obtain ⟨ad, s, A', n', c', rfl, _, hy, hc0, hc1, hc2, hst⟩ := (h.below hbw).at_ hlt
      have hk1 : (k : Int) < (n : Int) := by omega
      have hps := play_size l k
      rw [HP.out] at hps
      have hps1 : out.length ≤ cost (l.take k) := hps.1
      have hct := cost_take l (k + 1)
      rw [cost_step hy] at hct
      have hbound : out.length + (s.texts.length + 1) ≤ 1099511627776 := by have := HC.out; omega
      have hlv : lv ≤ k := hps.2
      clear hps
      have hln := hst.len
      rw [hln] at hbound
      have HLN := Lib.hid hln
      have HST := Lib.hid (playK_step hy)
      rw [HP.out] at HST
      obtain ⟨no, hno⟩ : ∃ no, no = out.length := ⟨_, rfl⟩
      rw [← hno] at hown hbound
      have HNO := Lib.hid hno
      have hn63 : n' ≤ 9223372036854775807 := by have := Rd.cap hst; have := Rd.small hst; omega
      clear hno hps1 hct hln hy
      have hbA := hbw.alloc hsz (.cells #[.int .i64 s.kind, .string s.text, .slice A' n' c'] 66)
      have hownA := hown.alloc (.cells #[.int .i64 s.kind, .string s.text, .slice A' n' c'] 66)
      have hstA := (hst.more hsz).below ((Below.refl wr.heap.size wr).alloc (Nat.le_refl _) (.cells #[.int .i64 s.kind, .string s.text, .slice A' n' c'] 66))
      cases q0 : (s.kind == 0) with
      | true =>
        have HQ := Lib.hid (play0 (st := (out, lv)) q0)
        go_wp2_with (at_builtin; go_loud (refine wpList_append_own _ rfl _ _ 28 rfl w.heap.size 31 i0 (.agg #[.string ⟨#[]⟩, .int .i64 0]) 2 24 Tryz.underlying28 hi hz0 hz1 hz2 rfl (by decide) _ _ _ rfl (hownA.alloc _) ⟨_, 0, none⟩ 1 1 [.string s.text, .int .i64 lv] rfl rfl (cell_two_at _ _ _ _ _ (by simp)) (pair_one _ _) (by unfold maxLen; omega) (by omega) (by simp; omega) ?_))
        intro v' w3 hown' hgrow _
        have hb3 : Below w.heap.size w w3 := (hbA.alloc (by simp; omega) _).grown hgrow (by simp; omega) (fun j hj => (World.ownsRow.lt hown _ hj).1)
        clear hgrow hown hownA hbw hbA hst hstA
        go_wp2
        go_roundw
        case rel =>
          refine ⟨k + 1, out ++ [(s.text, lv)], lv, by omega, by go_num, rfl, ?_, hb3, Lib.hid (by rw [HST.out, HQ.out])⟩
          rw [flatI_snoc, List.length_append, ← HNO.out]; exact hown'
        case measure => simp [intOf]; omega
      | false =>
      cases q1 : (s.kind == 1) with
      | true =>
        have HQ := Lib.hid (play1 (st := (out, lv)) q1)
        obtain ⟨wo, rfl⟩ : ∃ wo : World, wo = wr := ⟨_, rfl⟩
        have hsA : w.heap.size ≤ (wo.alloc (.cells #[.int .i64 s.kind, .string s.text, .slice A' n' c'] 66)).heap.size := hbA.size
        have hbo : Below w.heap.size wo (wo.alloc (.cells #[.int .i64 s.kind, .string s.text, .slice A' n' c'] 66)) := (Below.refl _ wo).alloc hsz _
        clear hown hstA hbA
        go_wp2_with fail
        go_loopw [3, 31] (fun v3 v31 wv => ∃ j : Nat, j ≤ n' ∧ v31 = .int .i64 j ∧ wv.ownsRow w.heap.size 31 2 v3 (no + j) (flatI (out ++ (s.texts.take j).map (fun t => (t, lv)))) ∧ Below w.heap.size wo wv) (fun _ v31 _ => n' - (intOf v31).toNat)
        case atStart => exact ⟨0, Nat.zero_le _, rfl, by simpa using hownA, hbo⟩
        case round =>
          obtain ⟨j, hj, rfl, hownj, hbj⟩ := hrel
          clear hownA hbo hsA
          have hszj : w.heap.size ≤ wr.heap.size := by have := hbj.size; omega
          by_cases hlt2 : j < n'
          · obtain ⟨ad2, y, rfl, _, hy2, hcy⟩ := StrsAt.at_ (StrsAt.below hst hbj) hlt2
            have HY2 := Lib.hid hy2
            clear hy2
            go_wp2_with (at_builtin; go_loud (refine wpList_append_own _ rfl _ _ 28 rfl w.heap.size 31 i0 (.agg #[.string ⟨#[]⟩, .int .i64 0]) 2 24 Tryz.underlying28 hi hz0 hz1 hz2 rfl (by decide) _ _ _ rfl (hownj.alloc _) ⟨_, 0, none⟩ 1 1 [.string y, .int .i64 lv] rfl rfl (cell_two_at _ _ _ _ _ (by simp)) (pair_one _ _) (by unfold maxLen; omega) (by omega) (by simp; omega) ?_))
            intro v' w3 hown' hgrow _
            have hb3 : Below w.heap.size wo w3 := (hbj.alloc hszj _).grown hgrow (by simp; omega) (fun j hj => (World.ownsRow.lt hownj _ hj).1)
            clear hgrow hownj hbj
            go_wp2
            go_roundw
            case rel =>
              refine ⟨j + 1, by omega, by go_num, ?_, hb3⟩
              rw [take_step HY2.out, List.map_append, ← List.append_assoc]
              rw [show ([y].map fun t => (t, lv)) = [(y, lv)] from rfl, flatI_snoc, List.map_take]
              exact hown'
            case measure => simp [intOf]; omega
          · have hjn : j = n' := by omega
            subst hjn
            have hbw2 := hbw.trans hbj
            rw [List.take_of_length_le (by rw [HLN.out]; exact Nat.le_refl _)] at hownj
            clear hbw hbj hst
            go_wp2
            go_roundw
            case rel =>
              refine ⟨k + 1, out ++ s.texts.map (fun t => (t, lv)), lv, by omega, by go_num, rfl, ?_, hbw2, Lib.hid (by rw [HST.out, HQ.out])⟩
              rw [List.length_append, List.length_map, HLN.out, ← HNO.out]; exact hownj
            case measure => simp [intOf]; omega
      | false =>
      cases q2 : (s.kind == 2) with
      | true =>
        have HQ := Lib.hid (play2 (st := (out, lv)) q2)
        clear hown hbw hst hstA
        by_cases hz : no = 0
        · subst hz
          have HX := Lib.hid (show playStep (out, lv) s = (out, lv) by rw [HQ.out, if_neg (by rw [← HNO.out]; omega)])
          have hown2 := hownA
          obtain ⟨A3, c3, rfl, _⟩ := own_rd hownA
          clear hownA
          go_wp2
          go_roundw
          case rel =>
            refine ⟨k + 1, out, lv, by omega, by go_num, rfl, ?_, hbA, Lib.hid (by rw [HST.out, HX.out])⟩
            rw [← HNO.out]; exact hown2
          case measure => simp [intOf]; omega
        · obtain ⟨m, rfl⟩ : ∃ m, no = m + 1 := ⟨no - 1, by omega⟩
          obtain ⟨g, cap, rfl⟩ : ∃ g cap, u3 = .slice (some ⟨g, 0, none⟩) (m + 1) cap := by
            rcases hownA.2 with ⟨_, h0⟩ | ⟨g, cap, cur, hv, _⟩
            · omega
            · exact ⟨g, cap, hv⟩
          have hcl : (wr.alloc (.cells #[.int .i64 s.kind, .string s.text, .slice A' n' c'] 66)).cell? ⟨g, m * 2 + 1, none⟩ = some (.int .i64 (lastLevel out)) := by
            rw [HNO.out] at hownA
            have := own_item_cell hownA (by rw [← HNO.out]; omega)
            rw [← HNO.out] at this
            exact this
          clear hz
          by_cases hll : lv ≤ lastLevel out
          · have HX := Lib.hid (show playStep (out, lv) s = (out, lv + 1) by rw [HQ.out, if_pos ⟨by rw [← HNO.out]; omega, hll⟩])
            generalize lastLevel out = ll at *
            go_wp2
            go_roundw
            case rel =>
              refine ⟨k + 1, out, lv + 1, by omega, by go_num, by go_num, ?_, hbA, Lib.hid (by rw [HST.out, HX.out])⟩
              rw [← HNO.out]; exact hownA
            case measure => simp [intOf]; omega
          · have HX := Lib.hid (show playStep (out, lv) s = (out, lv) by rw [HQ.out, if_neg (fun h => hll h.2)])
            generalize lastLevel out = ll at *
            go_wp2
            go_roundw
            case rel =>
              refine ⟨k + 1, out, lv, by omega, by go_num, rfl, ?_, hbA, Lib.hid (by rw [HST.out, HX.out])⟩
              rw [← HNO.out]; exact hownA
            case measure => simp [intOf]; omega
      | false =>
      cases q3 : (s.kind == 3) with
      | true =>
        have HQ := Lib.hid (play3 (st := (out, lv)) q3)
        clear hown hbw hst hstA
        go_wp2
        go_roundw
        case rel =>
          refine ⟨k + 1, out, lv - 1, by omega, by go_num, ?_, ?_, hbA, Lib.hid (by rw [HST.out, HQ.out])⟩
          · congr 1; omega
          · rw [← HNO.out]; exact hownA
        case measure => simp [intOf]; omega
      | false =>
      cases q4 : (s.kind == 4) with
      | true =>
        have HQ := Lib.hid (play4 (st := (out, lv)) q4)
        clear hown hbw hst hstA
        go_wp2
        go_roundw
        case rel =>
          refine ⟨k + 1, out, 0, by omega, by go_num, rfl, ?_, hbA, Lib.hid (by rw [HST.out, HQ.out])⟩
          rw [← HNO.out]; exact hownA
        case measure => simp [intOf]; omega
      | false =>
      cases q5 : (s.kind == 5) with
      | true =>
        have HQ := Lib.hid (play5 (st := (out, lv)) q5)
        clear hown hbw hst hstA
        go_wp2
        go_roundw
        case rel =>
          exact ⟨k + 1, [], 0, by omega, by go_num, rfl, World.ownsRow_nil _ _ _ _, hbA, Lib.hid (by rw [HST.out, HQ.out])⟩
        case measure => simp [intOf]; omega
      | false =>
        have HQ := Lib.hid (play6 (st := (out, lv)) q0 q1 q2 q3 q4 q5)
        clear hown hbw hst hstA
        go_wp2
        go_roundw
        case rel =>
          refine ⟨k + 1, out, lv, by omega, by go_num, rfl, ?_, hbA, Lib.hid (by rw [HST.out, HQ.out])⟩
          rw [← HNO.out]; exact hownA
        case measure => simp [intOf]; omega
    · have HE := Lib.hid (show played l = out by unfold played; rw [← playK_all (k := k) (by rw [HL.out]; omega), HP.out])
      clear h
      go_wp2
      go_ret
      refine ⟨_, rfl, ?_, hbw⟩
      rw [HE.out]
      exact hown
end Go.Proofs.YtdkpacgbniclhaaGreatDoor
