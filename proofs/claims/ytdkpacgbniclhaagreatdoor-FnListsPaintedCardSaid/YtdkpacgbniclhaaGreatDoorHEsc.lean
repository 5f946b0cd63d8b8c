/- Walk of the list's zzEscape: what it makes of a text. Condition: the text is not longer than the bound that is named. -/
import Derived.Test.YtdkpacgbniclhaaGreatDoorLSearch
import Derived.Test.YtdkpacgbniclhaaGreatDoorUtf
namespace Go.Proofs.YtdkpacgbniclhaaGreatDoor
open Go.RowKit

def escB (b : UInt8) : List UInt8 := if b = 60 then [38, 108, 116, 59] else if b = 62 then [38, 103, 116, 59] else if b = 38 then [38, 97, 109, 112, 59] else if b = 39 then [38, 35, 51, 57, 59] else if b = 34 then [38, 35, 51, 52, 59] else [b]
def escH (l : List UInt8) : List UInt8 := l.flatMap escB
theorem escB_len (b : UInt8) : (escB b).length ≤ 5 := by
  unfold escB
  repeat' split
  all_goals simp
theorem escH_len (l : List UInt8) : (escH l).length ≤ 5 * l.length := by
  induction l with
  | nil => simp [escH]
  | cons b l ih =>
    have := escB_len b
    simp only [escH, List.flatMap_cons, List.length_append, List.length_cons] at *
    omega
theorem escH_step {l : List UInt8} {k : Nat} {b : UInt8} (h : l[k]? = some b) : escH (l.take (k + 1)) = escH (l.take k) ++ escB b := by
  rw [take_step h]; simp [escH]

set_option maxRecDepth 100000 in
set_option maxHeartbeats 4000000 in
theorem hesc_any (s : ByteArray) (w : World) (hs : s.size ≤ 1099511627776) :
    Calls Tryz.prog 105 #[.string s] w fun e w' => e = .returned (.string ⟨(escH (bl s)).toArray⟩) ∧ Below w.heap.size w w' := by
  obtain ⟨i0, hi, hz0, hz1, hz2⟩ := info_parts infoByte
  go_enter Tryz.func105, Tryz.ntmps105
  go_wp2
  go_loopw [3, 4] (fun v3 v4 wr => ∃ (k : Nat) (acc : List UInt8), k ≤ s.size ∧ v4 = .int .i64 k ∧ OwnBytes wr w.heap.size 5 v3 acc ∧ Below w.heap.size w wr ∧ Hid (acc = escH ((bl s).take k)) ∧ acc.length ≤ 5 * k) (fun _ v4 _ => s.size - (intOf v4).toNat)
  case atStart => exact ⟨0, [], Nat.zero_le _, rfl, World.ownsRow_nil _ _ _ _, Below.refl _ _, Lib.hid rfl, by simp⟩
  case round =>
    obtain ⟨k, acc, hk, rfl, hown, hbw, HA, hal⟩ := hrel
    have hsz := hbw.size
    by_cases hlt : k < s.size
    · have hk1 : (k : Int) < (s.size : Int) := by omega
      obtain ⟨c, hc⟩ : ∃ c : Int, ((s[k]'hlt).toNat : Int) = c := ⟨_, rfl⟩
      have hby : (bl s)[k]? = some (s[k]'hlt) := by
        rw [List.getElem?_eq_getElem (by rw [bl_size]; exact hlt)]; rfl
      have HST := Lib.hid (escH_step hby)
      have HC := Lib.hid hc
      have hlen5 : acc.length + 5 ≤ 140737488355328 := by omega
      clear hby
      cases q0 : (c == 60) with
      | true =>
        have HE := Lib.hid (show escB (s[k]'hlt) = [38, 108, 116, 59] by
          have e : (s[k]'hlt) = 60 := by apply UInt8.toNat_inj.1; have h1 := HC.out; simp at q0; rw [q0] at h1; simp; omega
          rw [e]; decide)
        go_wp2_with (at_builtin; go_loud (refine Lib.wpList_append_own_string _ rfl _ _ 84 9 rfl w.heap.size 5 i0 Tryz.underlying84 Tryz.underlying9 hi hz0 hz1 hz2 _ _ _ rfl hown ⟨#[38, 108, 116, 59]⟩ rfl (by unfold maxLen; show acc.length + 4 ≤ _; omega) (by show acc.length + 4 ≤ _; omega) hsz ?_))
        intro v' w1 hown' hgrow _
        have hb1 : Below w.heap.size w w1 := hbw.grown hgrow hsz (fun j hj => (World.ownsRow.lt hown _ hj).1)
        have hob : OwnBytes w1 w.heap.size 5 v' (acc ++ [38, 108, 116, 59]) := by
          unfold OwnBytes; rw [List.length_append]
          have : Lib.byteCells (acc ++ [38, 108, 116, 59]) = Lib.byteCells acc ++ Lib.strCells ⟨#[38, 108, 116, 59]⟩ := by rw [byteCells_str]; unfold Lib.byteCells; rw [List.map_append]
          rw [this]; exact hown'
        clear hgrow hown hown' hbw
        go_wp2
        go_roundw
        case rel => exact ⟨k + 1, acc ++ [38, 108, 116, 59], by omega, by go_num, hob, hb1, Lib.hid (by rw [HST.out, HE.out, HA.out]), by rw [List.length_append]; show acc.length + 4 ≤ _; omega⟩
        case measure => simp [intOf]; omega
      | false =>
      cases q1 : (c == 62) with
      | true =>
        have HE := Lib.hid (show escB (s[k]'hlt) = [38, 103, 116, 59] by
          have e : (s[k]'hlt) = 62 := by apply UInt8.toNat_inj.1; have h1 := HC.out; simp at q1; rw [q1] at h1; simp; omega
          rw [e]; decide)
        go_wp2_with (at_builtin; go_loud (refine Lib.wpList_append_own_string _ rfl _ _ 84 9 rfl w.heap.size 5 i0 Tryz.underlying84 Tryz.underlying9 hi hz0 hz1 hz2 _ _ _ rfl hown ⟨#[38, 103, 116, 59]⟩ rfl (by unfold maxLen; show acc.length + 4 ≤ _; omega) (by show acc.length + 4 ≤ _; omega) hsz ?_))
        intro v' w1 hown' hgrow _
        have hb1 : Below w.heap.size w w1 := hbw.grown hgrow hsz (fun j hj => (World.ownsRow.lt hown _ hj).1)
        have hob : OwnBytes w1 w.heap.size 5 v' (acc ++ [38, 103, 116, 59]) := by
          unfold OwnBytes; rw [List.length_append]
          have : Lib.byteCells (acc ++ [38, 103, 116, 59]) = Lib.byteCells acc ++ Lib.strCells ⟨#[38, 103, 116, 59]⟩ := by rw [byteCells_str]; unfold Lib.byteCells; rw [List.map_append]
          rw [this]; exact hown'
        clear hgrow hown hown' hbw
        go_wp2
        go_roundw
        case rel => exact ⟨k + 1, acc ++ [38, 103, 116, 59], by omega, by go_num, hob, hb1, Lib.hid (by rw [HST.out, HE.out, HA.out]), by rw [List.length_append]; show acc.length + 4 ≤ _; omega⟩
        case measure => simp [intOf]; omega
      | false =>
      cases q2 : (c == 38) with
      | true =>
        have HE := Lib.hid (show escB (s[k]'hlt) = [38, 97, 109, 112, 59] by
          have e : (s[k]'hlt) = 38 := by apply UInt8.toNat_inj.1; have h1 := HC.out; simp at q2; rw [q2] at h1; simp; omega
          rw [e]; decide)
        go_wp2_with (at_builtin; go_loud (refine Lib.wpList_append_own_string _ rfl _ _ 84 9 rfl w.heap.size 5 i0 Tryz.underlying84 Tryz.underlying9 hi hz0 hz1 hz2 _ _ _ rfl hown ⟨#[38, 97, 109, 112, 59]⟩ rfl (by unfold maxLen; show acc.length + 5 ≤ _; omega) (by show acc.length + 5 ≤ _; omega) hsz ?_))
        intro v' w1 hown' hgrow _
        have hb1 : Below w.heap.size w w1 := hbw.grown hgrow hsz (fun j hj => (World.ownsRow.lt hown _ hj).1)
        have hob : OwnBytes w1 w.heap.size 5 v' (acc ++ [38, 97, 109, 112, 59]) := by
          unfold OwnBytes; rw [List.length_append]
          have : Lib.byteCells (acc ++ [38, 97, 109, 112, 59]) = Lib.byteCells acc ++ Lib.strCells ⟨#[38, 97, 109, 112, 59]⟩ := by rw [byteCells_str]; unfold Lib.byteCells; rw [List.map_append]
          rw [this]; exact hown'
        clear hgrow hown hown' hbw
        go_wp2
        go_roundw
        case rel => exact ⟨k + 1, acc ++ [38, 97, 109, 112, 59], by omega, by go_num, hob, hb1, Lib.hid (by rw [HST.out, HE.out, HA.out]), by rw [List.length_append]; show acc.length + 5 ≤ _; omega⟩
        case measure => simp [intOf]; omega
      | false =>
      cases q3 : (c == 39) with
      | true =>
        have HE := Lib.hid (show escB (s[k]'hlt) = [38, 35, 51, 57, 59] by
          have e : (s[k]'hlt) = 39 := by apply UInt8.toNat_inj.1; have h1 := HC.out; simp at q3; rw [q3] at h1; simp; omega
          rw [e]; decide)
        go_wp2_with (at_builtin; go_loud (refine Lib.wpList_append_own_string _ rfl _ _ 84 9 rfl w.heap.size 5 i0 Tryz.underlying84 Tryz.underlying9 hi hz0 hz1 hz2 _ _ _ rfl hown ⟨#[38, 35, 51, 57, 59]⟩ rfl (by unfold maxLen; show acc.length + 5 ≤ _; omega) (by show acc.length + 5 ≤ _; omega) hsz ?_))
        intro v' w1 hown' hgrow _
        have hb1 : Below w.heap.size w w1 := hbw.grown hgrow hsz (fun j hj => (World.ownsRow.lt hown _ hj).1)
        have hob : OwnBytes w1 w.heap.size 5 v' (acc ++ [38, 35, 51, 57, 59]) := by
          unfold OwnBytes; rw [List.length_append]
          have : Lib.byteCells (acc ++ [38, 35, 51, 57, 59]) = Lib.byteCells acc ++ Lib.strCells ⟨#[38, 35, 51, 57, 59]⟩ := by rw [byteCells_str]; unfold Lib.byteCells; rw [List.map_append]
          rw [this]; exact hown'
        clear hgrow hown hown' hbw
        go_wp2
        go_roundw
        case rel => exact ⟨k + 1, acc ++ [38, 35, 51, 57, 59], by omega, by go_num, hob, hb1, Lib.hid (by rw [HST.out, HE.out, HA.out]), by rw [List.length_append]; show acc.length + 5 ≤ _; omega⟩
        case measure => simp [intOf]; omega
      | false =>
      cases q4 : (c == 34) with
      | true =>
        have HE := Lib.hid (show escB (s[k]'hlt) = [38, 35, 51, 52, 59] by
          have e : (s[k]'hlt) = 34 := by apply UInt8.toNat_inj.1; have h1 := HC.out; simp at q4; rw [q4] at h1; simp; omega
          rw [e]; decide)
        go_wp2_with (at_builtin; go_loud (refine Lib.wpList_append_own_string _ rfl _ _ 84 9 rfl w.heap.size 5 i0 Tryz.underlying84 Tryz.underlying9 hi hz0 hz1 hz2 _ _ _ rfl hown ⟨#[38, 35, 51, 52, 59]⟩ rfl (by unfold maxLen; show acc.length + 5 ≤ _; omega) (by show acc.length + 5 ≤ _; omega) hsz ?_))
        intro v' w1 hown' hgrow _
        have hb1 : Below w.heap.size w w1 := hbw.grown hgrow hsz (fun j hj => (World.ownsRow.lt hown _ hj).1)
        have hob : OwnBytes w1 w.heap.size 5 v' (acc ++ [38, 35, 51, 52, 59]) := by
          unfold OwnBytes; rw [List.length_append]
          have : Lib.byteCells (acc ++ [38, 35, 51, 52, 59]) = Lib.byteCells acc ++ Lib.strCells ⟨#[38, 35, 51, 52, 59]⟩ := by rw [byteCells_str]; unfold Lib.byteCells; rw [List.map_append]
          rw [this]; exact hown'
        clear hgrow hown hown' hbw
        go_wp2
        go_roundw
        case rel => exact ⟨k + 1, acc ++ [38, 35, 51, 52, 59], by omega, by go_num, hob, hb1, Lib.hid (by rw [HST.out, HE.out, HA.out]), by rw [List.length_append]; show acc.length + 5 ≤ _; omega⟩
        case measure => simp [intOf]; omega
      | false =>
      have HE := Lib.hid (show escB (s[k]'hlt) = [s[k]'hlt] by
        have h1 := HC.out
        have key : ∀ n : UInt8, (c == (n.toNat : Int)) = false → (s[k]'hlt) ≠ n := by intro n hn e; rw [← h1, e] at hn; simp at hn
        unfold escB
        rw [if_neg (key 60 q0), if_neg (key 62 q1), if_neg (key 38 q2), if_neg (key 39 q3), if_neg (key 34 q4)])
      go_wp2_with (at_builtin; go_loud (refine wpList_append_own _ rfl _ _ 84 rfl w.heap.size 5 i0 (.int .u8 0) 1 1 Tryz.underlying84 hi hz0 hz1 hz2 rfl (by decide) _ _ _ rfl (World.ownsRow.alloc hown _) ⟨_, 0, none⟩ 1 1 [.int .u8 c] rfl rfl (cell_one_new _ _ _) (by intro u hu; simp at hu; subst hu; rfl) (by unfold maxLen; omega) (by omega) (by simp; omega) ?_))
      intro v' w1 hown' hgrow _
      have hb1 : Below w.heap.size w w1 := (hbw.alloc hsz _).grown hgrow (by simp; omega) (fun j hj => (World.ownsRow.lt hown _ hj).1)
      have hob : OwnBytes w1 w.heap.size 5 v' (acc ++ [s[k]'hlt]) := by
        unfold OwnBytes; rw [List.length_append]
        have : Lib.byteCells (acc ++ [s[k]'hlt]) = Lib.byteCells acc ++ [.int .u8 c] := by rw [← HC.out]; simp [Lib.byteCells]
        rw [this]; exact hown'
      clear hgrow hown hown' hbw
      go_wp2
      go_roundw
      case rel => exact ⟨k + 1, acc ++ [s[k]'hlt], by omega, by go_num, hob, hb1, Lib.hid (by rw [HST.out, HE.out, HA.out]), by rw [List.length_append]; show acc.length + 1 ≤ _; omega⟩
      case measure => simp [intOf]; omega
    · have hks : k = s.size := by omega
      have HF := Lib.hid (show acc = escH (bl s) by rw [HA.out, List.take_of_length_le (by rw [bl_size]; omega)])
      obtain ⟨A', c', hv', _⟩ := own_rd hown
      obtain ⟨n1, hn1⟩ : ∃ n1, n1 = acc.length := ⟨_, rfl⟩
      rw [← hn1] at hv'
      subst hv'
      clear hn1
      have hcv := run_str_own (P := Tryz.prog) hown 84 9 Tryz.underlying84 Tryz.underlying5 Tryz.underlying9
      clear hown
      go_wp2
      go_ret
      exact ⟨ret_str (by rw [HF.out]), hbw⟩
end Go.Proofs.YtdkpacgbniclhaaGreatDoor
