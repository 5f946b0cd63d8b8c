/- Walks of the small search functions on texts (index, contains, replace): what they answer. Condition: sizes below the bounds that are named. -/
import Derived.Test.YtdkpacgbniclhaaGreatDoorKnown
import Derived.Test.YtdkpacgbniclhaaGreatDoorSearch
import Derived.Lib.AppendStr
namespace Go.Proofs.YtdkpacgbniclhaaGreatDoor
open Go.RowKit

set_option maxHeartbeats 1000000 in
theorem lindex_any (s p : ByteArray) (w : World) (hs : s.size ≤ 140737488355328) (hp : p.size ≤ 140737488355328) :
    Calls Tryz.prog 130 #[.string s, .string p] w fun e w' => e = .returned (.int .i64 (zfind s p 0)) ∧ w = w' := by
  go_enter Tryz.func130, Tryz.ntmps130
  go_wp2
  go_loop [5] (fun i => ∃ k : Nat, k ≤ s.size + 1 ∧ i = .int .i64 k ∧ zfind s p 0 = zfind s p k) (fun i => s.size + 1 - (intOf i).toNat)
  case atStart => exact ⟨0, Nat.zero_le _, rfl, rfl⟩
  case round =>
    obtain ⟨k, hk, rfl, hr⟩ := hrel
    have HR := Lib.hid hr
    clear hr
    by_cases hlt : k + p.size ≤ s.size
    · by_cases he : ((s.extract k (k + p.size)).toList == p.toList) = true
      · go_wp2
        go_ret
        exact ⟨ret_int (by rw [HR.out, zfind_hit hlt he]), rfl⟩
      · have he' : ((s.extract k (k + p.size)).toList == p.toList) = false := by simpa using he
        clear he
        go_wp2
        go_round
        case rel => exact ⟨k + 1, by omega, by go_num, by rw [HR.out, zfind_next hlt he']⟩
        case measure => simp [intOf]; omega
    · go_wp2
      go_ret
      exact ⟨ret_int (by rw [HR.out, zfind_end hlt]), rfl⟩

set_option maxHeartbeats 400000 in
theorem lcontains_any (s p : ByteArray) (w : World) (hs : s.size ≤ 140737488355328) (hp : p.size ≤ 140737488355328) : Calls Tryz.prog 100 #[.string s, .string p] w fun e w' => e = .returned (.bool (decide (0 ≤ zfind s p 0))) ∧ w = w' := by
  go_enter Tryz.func100, Tryz.ntmps100
  go_wp2_with (go_at_call 130; refine (lindex_any _ _ _ hs hp).mono ?_; rintro e w' ⟨rfl, rfl⟩)
  go_ret
  exact ⟨rfl, rfl⟩

set_option maxRecDepth 100000 in
set_option maxHeartbeats 4000000 in
theorem lreplace_any (s p nw : ByteArray) (w : World) (hs : s.size ≤ 140737488355328) (hp0 : 0 < p.size) (hp : p.size ≤ 140737488355328) (hr : (replL (bl p) (bl nw) (bl s)).length ≤ 140737488355328) :
    Calls Tryz.prog 101 #[.string s, .string p, .string nw] w fun e w' => e = .returned (.string ⟨(replL (bl p) (bl nw) (bl s)).toArray⟩) ∧ Below w.heap.size w w' := by
  obtain ⟨i0, hi, hz0, hz1, hz2⟩ := info_parts infoByte
  have hp1 : ((p.size : Int) == 0) = false := by rw [beq_eq_false_iff_ne]; omega
  go_enter Tryz.func101, Tryz.ntmps101
  go_wp2
  go_loopw [0, 7] (fun v0 v7 wr => ∃ (t : ByteArray) (acc : List UInt8), v0 = .string t ∧ t.size ≤ s.size ∧ OwnBytes wr w.heap.size 5 v7 acc ∧ Below w.heap.size w wr ∧ Hid (replL (bl p) (bl nw) (bl s) = acc ++ replL (bl p) (bl nw) (bl t))) (fun v0 _ _ => strSize v0)
  case atStart => exact ⟨s, [], rfl, Nat.le_refl _, World.ownsRow_nil _ _ _ _, Below.refl _ _, rfl⟩
  case round =>
    obtain ⟨t, acc, rfl, ht, hown, hbw, HA⟩ := hrel
    have hsz := hbw.size
    rcases zfind_spec t p (bl nw) hp0 0 (Nat.zero_le _) with ⟨hz, hrep, _⟩ | ⟨i, hz, _, hin, hrep, _⟩
    · have hrep' : replL (bl p) (bl nw) (bl s) = acc ++ bl t := by rw [HA.out]; congr 1
      have HREP := Lib.hid hrep'
      have HZ := Lib.hid hz
      have hlen : acc.length + t.size ≤ 140737488355328 := by rw [hrep', List.length_append, bl_size] at hr; exact hr
      clear hrep hrep' hz hr HA
      go_wp2_with fail
      refine (lindex_any t p _ (by omega) hp).mono ?_
      rintro e w' ⟨rfl, rfl⟩
      rw [HZ.out]
      go_wp2_with (at_builtin; go_loud (refine Lib.wpList_append_own_string _ rfl _ _ 84 9 rfl w.heap.size 5 i0 Tryz.underlying84 Tryz.underlying9 hi hz0 hz1 hz2 _ _ _ rfl hown t rfl ?c1 hlen hsz ?_))
      case c1 => unfold maxLen; omega
      intro v' w1 hown' hgrow _
      have hb1 : Below w.heap.size w w1 := hbw.grown hgrow hsz (fun k hk => (World.ownsRow.lt hown _ hk).1)
      have hob : OwnBytes w1 w.heap.size 5 v' (acc ++ bl t) := by
        unfold OwnBytes; rw [List.length_append, bl_size]
        have : Lib.byteCells (acc ++ bl t) = Lib.byteCells acc ++ Lib.strCells t := by rw [byteCells_str]; simp [Lib.byteCells]
        rw [this]; exact hown'
      obtain ⟨A', c', hv', _⟩ := own_rd hob
      obtain ⟨n1, hn1⟩ : ∃ n1, n1 = (acc ++ bl t).length := ⟨_, rfl⟩
      rw [← hn1] at hv'
      subst hv'
      clear hn1
      have hcv := run_str_own (P := Tryz.prog) hob 84 9 Tryz.underlying84 Tryz.underlying5 Tryz.underlying9
      clear hown' hob hgrow hown hbw
      go_wp2
      go_ret
      exact ⟨ret_str (by rw [HREP.out]), hb1⟩
    · have hrep' : replL (bl p) (bl nw) (bl s) = (acc ++ (bl t).take i ++ bl nw) ++ replL (bl p) (bl nw) ((bl t).drop (i + p.size)) := by
        rw [HA.out]
        have h := hrep
        rw [List.drop_zero, Nat.sub_zero] at h
        rw [h]; simp only [List.append_assoc]
      have HREP := Lib.hid hrep'
      have HZ := Lib.hid hz
      have e1 : bl (t.extract 0 i) = (bl t).take i := by rw [bl, Lib.extract_data]; simp
      have e2 : bl (t.extract (i + p.size) t.size) = (bl t).drop (i + p.size) := Lib.extract_to_end t _
      have hl1 : (t.extract 0 i).size = i := by rw [← bl_size, e1, List.length_take, bl_size]; omega
      have hl2 : (t.extract (i + p.size) t.size).size = t.size - (i + p.size) := by rw [← bl_size, e2, List.length_drop, bl_size]
      have HL1 := Lib.hid hl1
      have HL2 := Lib.hid hl2
      have HE1 := Lib.hid e1
      have HE2 := Lib.hid e2
      have hlen : acc.length + i + nw.size ≤ 140737488355328 := by rw [hrep'] at hr; simp only [List.length_append, List.length_take, bl_size] at hr; omega
      clear hrep hrep' hz hr HA hl1 hl2 e1 e2
      go_wp2_with fail
      refine (lindex_any t p _ (by omega) hp).mono ?_
      rintro e w' ⟨rfl, rfl⟩
      rw [HZ.out]
      go_wp2_with (at_builtin; go_loud (refine Lib.wpList_append_own_string _ rfl (.tmp 54) _ 84 9 rfl w.heap.size 5 i0 Tryz.underlying84 Tryz.underlying9 hi hz0 hz1 hz2 _ _ _ rfl hown (t.extract 0 i) rfl ?c1 ?c2 hsz ?_))
      case c1 => rw [HL1.out]; unfold maxLen; omega
      case c2 => rw [HL1.out]; omega
      intro v1 w1 hown1 hgrow1 _
      have hb1 : Below w.heap.size w w1 := hbw.grown hgrow1 hsz (fun k hk => (World.ownsRow.lt hown _ hk).1)
      have hsz1 := hb1.size
      clear hgrow1 hown hbw
      rw [Nat.min_eq_left (by omega)] at hown1
      go_wp2_with (at_builtin; go_loud (refine Lib.wpList_append_own_string _ rfl (.tmp 58) _ 84 9 rfl w.heap.size 5 i0 Tryz.underlying84 Tryz.underlying9 hi hz0 hz1 hz2 _ _ _ rfl hown1 nw rfl ?d1 hlen hsz1 ?_))
      case d1 => unfold maxLen; omega
      intro v2 w2 hown2 hgrow2 _
      have hb2 : Below w.heap.size w w2 := hb1.grown hgrow2 hsz1 (fun k hk => (World.ownsRow.lt hown1 _ hk).1)
      clear hgrow2 hown1 hb1
      go_wp2
      go_roundw
      case rel =>
        refine ⟨t.extract (i + p.size) t.size, acc ++ (bl t).take i ++ bl nw, by first | rfl | simp, by rw [HL2.out]; omega, ?_, hb2, ?_⟩
        · unfold OwnBytes
          rw [List.length_append, List.length_append, List.length_take, bl_size, bl_size, Nat.min_eq_left (by omega)]
          have : Lib.byteCells (acc ++ (bl t).take i ++ bl nw) = Lib.byteCells acc ++ (Lib.strCells (t.extract 0 i) ++ Lib.strCells nw) := by rw [byteCells_str, byteCells_str, HE1.out]; simp [Lib.byteCells]
          rw [this]; exact hown2
        · show _ = _
          rw [HE2.out]; exact HREP.out
      case measure =>
        have h2 := HL2.out
        simp [strSize]
        omega
end Go.Proofs.YtdkpacgbniclhaaGreatDoor
