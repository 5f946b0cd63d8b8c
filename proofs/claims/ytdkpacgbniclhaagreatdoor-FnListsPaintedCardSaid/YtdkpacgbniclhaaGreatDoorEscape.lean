/- Walk of text.Escape: what it makes of a text and a sequence. Condition: sizes below the bounds that are named. -/
import Derived.Test.YtdkpacgbniclhaaGreatDoorColor
import Derived.Deep.DeepCutAuto
namespace Go.Proofs.YtdkpacgbniclhaaGreatDoor
open Go.RowKit

def RESET : List UInt8 := [27, 91, 48, 109]
def escPre (s q : List UInt8) : List UInt8 := if Lib.hasPrefix s [27, 91] = true then [] else q
def escPost (l : List UInt8) : List UInt8 := if Lib.hasSuffix l RESET = true then [] else RESET
/-- text.Escape: what stands before the last turn. -/
def esc1 (s q : List UInt8) : List UInt8 := escPre s q ++ replL RESET (RESET ++ q) s
def esc2 (s q : List UInt8) : List UInt8 := esc1 s q ++ escPost (esc1 s q)
def escL (s q : List UInt8) : List UInt8 := replL (q ++ RESET) [] (esc2 s q)

theorem mk_size (l : List UInt8) : (ByteArray.mk l.toArray).size = l.length := (bl_size ⟨l.toArray⟩).symm
theorem bl_append (a b : ByteArray) : bl (a ++ b) = bl a ++ bl b := by simp [bl]

set_option maxRecDepth 100000 in
set_option maxHeartbeats 4000000 in
theorem escape_any (s q : ByteArray) (w : World) (hs : s.size ≤ 1099511627776) (hq : q.size ≤ 65536) (h2 : (esc2 (bl s) (bl q)).length ≤ 70368744177664) (hr : (escL (bl s) (bl q)).length ≤ 70368744177664) :
    Calls Tryz.prog 92 #[.string s, .string q] w fun e w' => e = .returned (.string ⟨(escL (bl s) (bl q)).toArray⟩) ∧ Below w.heap.size w w' := by
  have hE1 : (esc1 (bl s) (bl q)).length ≤ 70368744177664 := by unfold esc2 at h2; rw [List.length_append] at h2; omega
  have hRp : (replL RESET (RESET ++ bl q) (bl s)).length ≤ 70368744177664 := by unfold esc1 at hE1; rw [List.length_append] at hE1; omega
  have HE1 := Lib.hid hE1
  have HRp := Lib.hid hRp
  have H2 := Lib.hid h2
  have HR := Lib.hid hr
  clear hE1 hRp h2 hr
  go_enter Tryz.func92, Tryz.ntmps92
  go_wp2_with fail
  rw [show ((s.size : Int) + (q.size : Int) * 3 + 8) = ((s.size + q.size * 3 + 8 : Nat) : Int) by omega]
  refine (bld_grow w.heap.size w.heap.size _ _ (Nat.le_refl _) (heap_alloc_new w _) (by simp) (by omega)).mono ?_
  rintro e w1 ⟨rfl, hB1, hb1⟩
  have hb1' : Below w.heap.size w w1 := ((Below.refl _ w).alloc (Nat.le_refl _) _).trans hb1
  clear hb1
  go_wp2_with fail
  refine (Tryz.strings_HasPrefix _ _ _).mono ?_
  rintro e w2 ⟨rfl, rfl⟩
  generalize hp : Lib.hasPrefix s.data.toList (ByteArray.mk #[27, 91]).data.toList = b1
  have HP := Lib.hid hp
  clear hp
  go_upto_if 17 with (fail)
  go_cut [] (fun wx => Bld wx w.heap.size w.heap.size (escPre (bl s) (bl q)) ∧ Below w.heap.size w wx)
  case first =>
    cases b1 with
    | true =>
      go_wp2_with fail
      go_meet
      exact ⟨by rw [escPre, if_pos HP.out]; exact hB1, hb1'⟩
    | false =>
      go_wp2_with fail
      refine (bld_write w.heap.size w.heap.size [] q _ hB1 (by simp; omega) hb1'.size).mono ?_
      rintro e w3 ⟨rfl, hB3, hb3, _⟩
      go_wp2_with fail
      go_meet
      exact ⟨by rw [escPre, if_neg (by rw [show Lib.hasPrefix (bl s) [27, 91] = false from HP.out]; simp)]; exact hB3, hb1'.trans hb3⟩
  case rest =>
    obtain ⟨hBc, hbc⟩ := hcut
    clear hb1' hB1
    have hszc := hbc.size
    go_wp2_with fail
    refine (replace_any s _ _ _ (by omega) (by decide) (by decide) (by rw [bl_append]; exact Nat.le_trans HRp.out (by omega))).mono ?_
    rintro e w3 ⟨rfl, hb3⟩
    have hB3 := hBc.below hb3
    have hbc3 := hbc.trans (hb3.mono hszc)
    clear hBc hbc hb3 hszc
    have hsz3 := hbc3.size
    have HZ := Lib.hid (show esc1 (bl s) (bl q) = escPre (bl s) (bl q) ++ bl ⟨(replL (bl ⟨#[27, 91, 48, 109]⟩) (bl (⟨#[27, 91, 48, 109]⟩ ++ q)) (bl s)).toArray⟩ by rw [bl_mk, bl_append]; rfl)
    generalize (replL (bl ⟨#[27, 91, 48, 109]⟩) (bl (⟨#[27, 91, 48, 109]⟩ ++ q)) (bl s)).toArray = rep at *
    go_wp2_with fail
    refine (bld_write w.heap.size w.heap.size _ _ _ hB3 (by have h := HE1.out; rw [HZ.out, List.length_append, bl_size] at h; exact Nat.le_trans h (by omega)) hsz3).mono ?_
    rintro e w4 ⟨rfl, hB4, hb4, _⟩
    rw [← HZ.out] at hB4
    have hbc4 := hbc3.trans hb4
    have hsz4 := hbc4.size
    clear hB3 hbc3 hb4 hsz3
    go_wp2_with fail
    refine (bld_string w.heap.size w.heap.size _ _ hB4 hsz4).mono ?_
    rintro e w5 ⟨rfl, hB5, hb5, _⟩
    have hbc5 := hbc4.trans hb5
    clear hB4 hbc4 hb5 hsz4
    have hsz5 := hbc5.size
    go_wp2_with fail
    refine (Tryz.strings_HasSuffix _ _ _ (by rw [mk_size]; exact Nat.le_trans HE1.out (by omega))).mono ?_
    rintro e w6 ⟨rfl, rfl⟩
    generalize hp : Lib.hasSuffix (ByteArray.mk (esc1 (bl s) (bl q)).toArray).data.toList (ByteArray.mk #[27, 91, 48, 109]).data.toList = b2
    have HP2 := Lib.hid (show Lib.hasSuffix (esc1 (bl s) (bl q)) RESET = b2 from hp)
    clear hp
    go_upto_if 27 with (fail)
    go_cut [] (fun wx => Bld wx w.heap.size w.heap.size (esc2 (bl s) (bl q)) ∧ Below w.heap.size w wx)
    case first =>
      cases b2 with
      | true =>
        go_wp2_with fail
        go_meet
        exact ⟨by rw [esc2, escPost, if_pos HP2.out, List.append_nil]; exact hB5, hbc5⟩
      | false =>
        go_wp2_with fail
        have e2 : esc2 (bl s) (bl q) = esc1 (bl s) (bl q) ++ bl ⟨#[27, 91, 48, 109]⟩ := by rw [esc2, escPost, if_neg (by rw [HP2.out]; simp)]; rfl
        refine (bld_write w.heap.size w.heap.size _ _ _ hB5 (by have h := H2.out; rw [e2, List.length_append] at h; rw [← bl_size]; exact Nat.le_trans h (by omega)) hsz5).mono ?_
        rintro e w6 ⟨rfl, hB6, hb6, _⟩
        rw [← e2] at hB6
        go_wp2_with fail
        go_meet
        exact ⟨hB6, hbc5.trans hb6⟩
    case rest =>
      obtain ⟨hB6, hbc6⟩ := hcut
      clear hB5 hbc5 hsz5
      have hsz6 := hbc6.size
      go_wp2_with fail
      refine (bld_string w.heap.size w.heap.size _ _ hB6 hsz6).mono ?_
      rintro e w7 ⟨rfl, _, hb7, _⟩
      have hbc7 := hbc6.trans hb7
      clear hB6 hbc6 hb7 hsz6
      have hsz7 := hbc7.size
      have h2s := H2.out
      rw [← mk_size] at h2s
      have HX := Lib.hid (show bl ⟨(esc2 (bl s) (bl q)).toArray⟩ = esc2 (bl s) (bl q) from rfl)
      generalize (ByteArray.mk (esc2 (bl s) (bl q)).toArray) = x at *
      go_wp2_with fail
      have hqs : (q ++ ⟨#[27, 91, 48, 109]⟩ : ByteArray).size = q.size + 4 := by rw [← bl_size, bl_append, List.length_append, bl_size]; rfl
      have HQ := Lib.hid hqs
      clear hqs
      refine (contains_any x _ _ (by omega) (by have := HQ.out; omega)).mono ?_
      rintro e w8 ⟨rfl, rfl⟩
      have hspec := zfind_spec x (q ++ ⟨#[27, 91, 48, 109]⟩) [] (by have := HQ.out; omega) 0 (Nat.zero_le _)
      have HSP := Lib.hid hspec
      clear hspec
      generalize hb3 : decide (0 ≤ zfind x (q ++ ⟨#[27, 91, 48, 109]⟩) 0) = b3
      have HB3 := Lib.hid hb3
      clear hb3
      cases b3 with
      | true =>
        go_wp2_with fail
        refine (replace_any x _ _ _ (by omega) (by have := HQ.out; omega) (by have := HQ.out; omega) (by rw [HX.out, bl_append]; exact Nat.le_trans HR.out (by omega))).mono ?_
        rintro e w8 ⟨rfl, hb8⟩
        have hbc8 := hbc7.trans (hb8.mono hsz7)
        clear hbc7 hb8 hsz7
        go_wp2
        go_ret
        exact ⟨ret_str (by rw [HX.out]; first | rfl | (rw [bl_append]; rfl)), hbc8⟩
      | false =>
        have e : escL (bl s) (bl q) = esc2 (bl s) (bl q) := by
          rcases HSP.out with ⟨_, h, _⟩ | ⟨i, h, _⟩
          · rw [List.drop_zero, HX.out, bl_append] at h; exact h
          · have := HB3.out; rw [h] at this; simp at this
        have HE := Lib.hid e
        clear e
        go_wp2
        go_ret
        exact ⟨ret_str (by rw [HE.out, ← HX.out]), hbc7⟩
end Go.Proofs.YtdkpacgbniclhaaGreatDoor
