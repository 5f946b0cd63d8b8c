/- Walk of text.zzSplit: what it makes. Condition: sizes below the bounds that are named. -/
import Derived.Test.YtlclmpiocbkabaaDoorSearch
import Derived.Test.YtlclmpiocbkabaaDoorBuild
import Derived.Test.YtlclmpiocbkabaaDoorPrint
import Derived.Test.YtlclmpiocbkabaaDoorUtf
namespace Go.Proofs.YtlclmpiocbkabaaDoor
open Go.RowKit

/-- A row of strings of the call's own. -/
def OwnStrs (w : World) (B : Nat) (v : Value) (l : List ByteArray) : Prop := w.ownsRow B 9 1 v l.length (l.map Value.string)
theorem OwnStrs.rd {w : World} {B : Nat} {v : Value} {l : List ByteArray} (h : OwnStrs w B v l) : ∃ A c, v = .slice A l.length c ∧ StrsAt w w.heap.size A l.length c l := own_rd h

set_option maxRecDepth 100000 in
set_option maxHeartbeats 4000000 in
theorem split_any (s p : ByteArray) (w : World) (hs : s.size ≤ 1099511627776) (hp0 : 0 < p.size) (hp : p.size ≤ 1099511627776) :
    Calls Tryd.prog 84 #[.string s, .string p] w fun e w' => ∃ v l, e = .returned v ∧ OwnStrs w' w.heap.size v l ∧ l.map bl = splitL (bl p) (bl s) ∧ Below w.heap.size w w' := by
  obtain ⟨i0, hi, hz0, hz1, hz2⟩ := info_parts infoStr
  have hp1 : ((p.size : Int) == 0) = false := by rw [beq_eq_false_iff_ne]; omega
  go_enter Tryd.func84, Tryd.ntmps84
  go_wp2
  go_loopw [0, 5] (fun v0 v5 wr => ∃ (t : ByteArray) (done : List ByteArray), v0 = .string t ∧ t.size ≤ s.size ∧ done.length + t.size ≤ s.size ∧ OwnStrs wr w.heap.size v5 done ∧ Below w.heap.size w wr ∧ Hid (splitL (bl p) (bl s) = done.map bl ++ splitL (bl p) (bl t))) (fun v0 _ _ => strSize v0)
  case atStart => exact ⟨s, [], rfl, Nat.le_refl _, by simp, World.ownsRow_nil _ _ _ _, Below.refl _ _, rfl⟩
  case round =>
    obtain ⟨t, done, rfl, ht, hdl, hown, hbw, HA⟩ := hrel
    have hsz := hbw.size
    unfold OwnStrs at hown
    obtain ⟨n, hn⟩ : ∃ n, n = done.length := ⟨_, rfl⟩
    rw [← hn] at hown hdl
    have HN := Lib.hid hn
    clear hn
    rcases zfind_spec t p [] hp0 0 (Nat.zero_le _) with ⟨hz, _, hspl⟩ | ⟨i, hz, _, hin, _, hspl⟩
    · have HS := Lib.hid (show splitL (bl p) (bl s) = (done ++ [t]).map bl by
        rw [HA.out]; rw [List.drop_zero] at hspl; rw [hspl]; simp)
      have HZ := Lib.hid hz
      clear hspl hz HA
      go_wp2_with fail
      refine (index_any t p _ (by omega) (by omega)).mono ?_
      rintro e w' ⟨rfl, rfl⟩
      rw [HZ.out]
      go_wp2_with (at_builtin; go_loud (refine wpList_append_own _ rfl _ _ 95 rfl w.heap.size 9 i0 (.string ⟨#[]⟩) 1 16 Tryd.underlying95 hi hz0 hz1 hz2 rfl (by decide) _ _ _ rfl (hown.alloc _) ⟨_, 0, none⟩ 1 1 [.string t] rfl rfl ?c1 ?c2 ?c3 ?c4 ?c5 ?_))
      case c1 => exact cell_one_new _ _ _
      case c2 => intro u hu; simp at hu; subst hu; rfl
      case c3 => unfold maxLen; omega
      case c4 => omega
      case c5 => simp; omega
      intro v' w3 hown' hgrow _
      have hb3 : Below w.heap.size w w3 := (hbw.alloc hsz _).grown hgrow (by simp; omega) (fun j hj => (World.ownsRow.lt hown _ hj).1)
      clear hgrow hown hbw
      go_wp2
      go_ret
      exact ⟨_, done ++ [t], rfl, by unfold OwnStrs; rw [List.length_append, List.map_append, ← HN.out]; exact hown', HS.out.symm, hb3⟩
    · have e1 : bl (t.extract 0 i) = (bl t).take i := by rw [bl, Lib.extract_data]; simp
      have e2 : bl (t.extract (i + p.size) t.size) = (bl t).drop (i + p.size) := Lib.extract_to_end t _
      have hl2 : (t.extract (i + p.size) t.size).size = t.size - (i + p.size) := by rw [← bl_size, e2, List.length_drop, bl_size]
      have HS := Lib.hid (show splitL (bl p) (bl s) = (done ++ [t.extract 0 i]).map bl ++ splitL (bl p) (bl (t.extract (i + p.size) t.size)) by
        rw [HA.out]; rw [List.drop_zero, Nat.sub_zero] at hspl; rw [hspl, e2]; simp only [List.map_append, List.map_cons, List.map_nil, e1, List.append_assoc]; rfl)
      have HL2 := Lib.hid hl2
      have HZ := Lib.hid hz
      clear hspl hz HA hl2 e1 e2
      go_wp2_with fail
      refine (index_any t p _ (by omega) (by omega)).mono ?_
      rintro e w' ⟨rfl, rfl⟩
      rw [HZ.out]
      go_wp2_with (at_builtin; go_loud (refine wpList_append_own _ rfl _ _ 95 rfl w.heap.size 9 i0 (.string ⟨#[]⟩) 1 16 Tryd.underlying95 hi hz0 hz1 hz2 rfl (by decide) _ _ _ rfl (hown.alloc _) ⟨_, 0, none⟩ 1 1 [.string (t.extract 0 i)] rfl rfl ?c1 ?c2 ?c3 ?c4 ?c5 ?_))
      case c1 => exact cell_one_new _ _ _
      case c2 => intro u hu; simp at hu; subst hu; rfl
      case c3 => unfold maxLen; omega
      case c4 => omega
      case c5 => simp; omega
      intro v' w3 hown' hgrow _
      have hb3 : Below w.heap.size w w3 := (hbw.alloc hsz _).grown hgrow (by simp; omega) (fun j hj => (World.ownsRow.lt hown _ hj).1)
      clear hgrow hown hbw
      go_wp2
      go_roundw
      case rel => exact ⟨t.extract (i + p.size) t.size, done ++ [t.extract 0 i], rfl, by rw [HL2.out]; omega, by rw [HL2.out, List.length_append, ← HN.out]; simp; omega, by unfold OwnStrs; rw [List.length_append, List.map_append, ← HN.out]; exact hown', hb3, HS⟩
      case measure => simp [strSize, HL2.out]; omega
end Go.Proofs.YtlclmpiocbkabaaDoor
