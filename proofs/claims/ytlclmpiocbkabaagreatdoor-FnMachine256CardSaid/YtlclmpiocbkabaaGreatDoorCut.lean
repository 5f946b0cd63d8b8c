/- Walks of text.zzReplaceOne and of the parser's stripEscapeSequence: what they make. Condition: the text is not longer than the bound that is named. -/
import Derived.Test.YtlclmpiocbkabaaGreatDoorMachPlain
import Derived.Test.YtlclmpiocbkabaaGreatDoorSearch
import Derived.Deep.RegionHeld3
import Derived.WalkSmall
namespace Go.Proofs.YtlclmpiocbkabaaGreatDoor
open Go.RowKit
set_option linter.unusedVariables false

theorem cut_none {s p : ByteArray} (h : zfind s p 0 = -1) : cutOne s p = s := by unfold cutOne; rw [if_pos (by omega)]
theorem cut_some {s p : ByteArray} {i : Nat} (h : zfind s p 0 = i) : cutOne s p = s.extract 0 i ++ s.extract (i + p.size) s.size := by
  unfold cutOne; rw [if_neg (by omega), h]; rfl
theorem cut_size (s p : ByteArray) (hp : 0 < p.size) : (cutOne s p).size ≤ s.size := by
  rcases zfind_spec s p [] hp 0 (Nat.zero_le _) with ⟨hz, _⟩ | ⟨i, hz, _, hi, _⟩
  · rw [cut_none hz]; exact Nat.le_refl _
  · rw [cut_some hz, size_app, ← bl_size, ← bl_size, show bl (s.extract 0 i) = (bl s).take i by rw [bl, Lib.extract_data]; simp, show bl (s.extract (i + p.size) s.size) = (bl s).drop (i + p.size) from Lib.extract_to_end s _, List.length_take, List.length_drop, bl_size]
    omega

set_option maxRecDepth 100000 in
set_option maxHeartbeats 4000000 in
theorem cutOne_any (s p : ByteArray) (w : World) (hs : s.size ≤ 1099511627776) (hp0 : 0 < p.size) (hp : p.size ≤ 65536) :
    Calls Tryz.prog 60 #[.string s, .string p, .string ⟨#[]⟩] w fun e w' => e = .returned (.string (cutOne s p)) ∧ Below w.heap.size w w' := by
  rcases zfind_spec s p [] hp0 0 (Nat.zero_le _) with ⟨hz, _⟩ | ⟨i, hz, _, hi, _⟩
  · have HC := Lib.hid (cut_none hz)
    have HZ := Lib.hid hz
    clear hz
    go_enter Tryz.func60, Tryz.ntmps60
    go_wp2_with fail
    refine (index_any s p _ (by omega) (by omega)).mono ?_
    rintro e w' ⟨rfl, rfl⟩
    rw [HZ.out]
    go_wp2
    go_ret
    exact ⟨ret_str (by rw [HC.out]), Below.refl _ _⟩
  · have HC := Lib.hid (cut_some hz)
    have HZ := Lib.hid hz
    have hl1 : (s.extract 0 i).size ≤ i := by rw [← bl_size, show bl (s.extract 0 i) = (bl s).take i by rw [bl, Lib.extract_data]; simp, List.length_take]; omega
    have hl2 : (s.extract (i + p.size) s.size).size ≤ s.size := by rw [← bl_size, show bl (s.extract (i + p.size) s.size) = (bl s).drop (i + p.size) from Lib.extract_to_end s _, List.length_drop, bl_size]; omega
    clear hz
    go_enter Tryz.func60, Tryz.ntmps60
    go_wp2_with fail
    refine (index_any s p _ (by omega) (by omega)).mono ?_
    rintro e w' ⟨rfl, rfl⟩
    rw [HZ.out]
    have hi1 : (i : Int) ≤ (s.size : Int) := by omega
    have hi2 : (i : Int) + (p.size : Int) ≤ (s.size : Int) := by omega
    have hsum1 : ¬ (9223372036854775807 < (s.extract 0 i).size) := by omega
    have hsum2 : ¬ (9223372036854775807 < (s.extract 0 i).size + (s.extract (i + p.size) s.size).size) := by omega
    go_wp2_with fail
    go_quiet (fail)
    go_wp2_with fail
    go_ret
    exact ⟨ret_str (by rw [HC.out]; congr 1; exact bl_ext (by rw [bl_app]; exact List.append_nil _)), below_drewN (Below.refl _ _) nq⟩

set_option maxRecDepth 100000 in
set_option maxHeartbeats 4000000 in
theorem stripE_any (p : Value) (s : ByteArray) (kind : Int) (w : World) (hs : s.size ≤ 1099511627776) :
    Calls Tryz.prog 48 #[p, .string s, .int .i64 kind] w fun e w' => e = .returned (.string (stripE kind s)) ∧ Below w.heap.size w w' := by
  by_cases hk : kind = 2
  · have HC := Lib.hid (show stripE kind s = cutOne (cutOne s ⟨#[27, 93]⟩) ⟨#[92]⟩ by unfold stripE; rw [if_pos hk])
    have hz := cut_size s ⟨#[27, 93]⟩ (by decide)
    go_enter Tryz.func48, Tryz.ntmps48
    go_wp2_with fail
    refine (cutOne_any s ⟨#[27, 93]⟩ _ hs (by decide) (by decide)).mono ?_
    rintro e w1 ⟨rfl, hb1⟩
    go_wp2_with fail
    refine (cutOne_any (cutOne s ⟨#[27, 93]⟩) ⟨#[92]⟩ _ (by omega) (by decide) (by decide)).mono ?_
    rintro e w2 ⟨rfl, hb2⟩
    go_wp2
    go_ret
    exact ⟨ret_str (by rw [HC.out]), hb1.trans (hb2.mono hb1.size)⟩
  · have HC := Lib.hid (show stripE kind s = cutOne (cutOne s ⟨#[27, 91]⟩) ⟨#[109]⟩ by unfold stripE; rw [if_neg hk])
    have hz := cut_size s ⟨#[27, 91]⟩ (by decide)
    go_enter Tryz.func48, Tryz.ntmps48
    go_wp2_with fail
    refine (cutOne_any s ⟨#[27, 91]⟩ _ hs (by decide) (by decide)).mono ?_
    rintro e w1 ⟨rfl, hb1⟩
    go_wp2_with fail
    refine (cutOne_any (cutOne s ⟨#[27, 91]⟩) ⟨#[109]⟩ _ (by omega) (by decide) (by decide)).mono ?_
    rintro e w2 ⟨rfl, hb2⟩
    go_wp2
    go_ret
    exact ⟨ret_str (by rw [HC.out]), hb1.trans (hb2.mono hb1.size)⟩
end Go.Proofs.YtlclmpiocbkabaaGreatDoor
