/- Walks of spec.PtPainted and its like: the cells that they make. Condition: the text is not longer than the bound that is named. -/
import Derived.Test.YtlclmpiocbkabaaDoorAlike
import Derived.Test.YtlclmpiocbkabaaDoorPlain
import Derived.Deep.QuietTactic
namespace Go.Proofs.YtlclmpiocbkabaaDoor
open Go.RowKit

theorem infoCell : (Tryd.prog.info? 54).map (fun i => (i.zero, i.size, i.bytes)) = some (some (.agg #[.int .i32 0, .slice none 0 0]), 2, 32) := by kernel_rfl
theorem infoInt : (Tryd.prog.info? 3).map (fun i => (i.zero, i.size, i.bytes)) = some (some (.int .i64 0), 1, 8) := by kernel_rfl

def flatC (v : Value) (rs : List Int) : List Value := rs.flatMap fun r => [.int .i32 r, v]
theorem flatC_snoc (v : Value) (rs : List Int) (r : Int) : flatC v (rs ++ [r]) = flatC v rs ++ [.int .i32 r, v] := by simp [flatC]
theorem flatC_len (v : Value) (rs : List Int) : (flatC v rs).length = rs.length * 2 := by
  induction rs with
  | nil => rfl
  | cons r rs ih => simp only [flatC, List.flatMap_cons] at *; simp [ih]; omega
theorem flatC_at (v : Value) : ∀ (rs : List Int) (k : Nat) (r : Int), rs[k]? = some r → (flatC v rs)[2 * k]? = some (.int .i32 r) ∧ (flatC v rs)[2 * k + 1]? = some v := by
  intro rs
  induction rs with
  | nil => intro k r h; simp at h
  | cons x rs ih =>
    intro k r h
    cases k with
    | zero => simp at h; subst h; simp [flatC]
    | succ k =>
      have := ih k r (by simpa using h)
      simp only [flatC, List.flatMap_cons] at *
      rw [show 2 * (k + 1) = 2 * k + 2 by omega]
      simpa using this

def painted (s : ByteArray) (on : List Int) : List (Int × List Int) := (runes s).map fun r => (r, on)


def withC (l : List Int) (c : Int) : List Int := if c = 0 then [] else if amongB l c then l else l ++ [c]
theorem withC_len (l : List Int) (c : Int) : (withC l c).length ≤ l.length + 1 := by
  unfold withC; split
  · simp
  · split <;> simp

set_option maxHeartbeats 1000000 in
theorem with_any (v : Value) (l : List Int) (c : Int) (w : World) (hl : l.length ≤ 65536) (h : OwnInts w 3 v l) :
    Calls Tryd.prog 38 #[v, .int .i64 c] w fun e w' => ∃ v', e = .returned v' ∧ OwnInts w' 3 v' (withC l c) ∧ Below w.heap.size w w' := by
  obtain ⟨i0, hi, hz0, hz1, hz2⟩ := info_parts infoInt
  obtain ⟨A, cap, rfl, hrd⟩ := h.rd
  obtain ⟨n, hn⟩ : ∃ n, n = l.length := ⟨_, rfl⟩
  rw [← hn] at hrd hl ⊢
  have HN := Lib.hid hn
  clear hn
  by_cases h0 : (c == 0) = true
  · go_enter Tryd.func38, Tryd.ntmps38
    go_wp2
    go_ret
    exact ⟨_, rfl, by simp at h0; simp only [withC, h0, if_true]; exact OwnInts.nil _ _, Below.refl _ _⟩
  · have h0' : (c == 0) = false := by simpa using h0
    have HC := Lib.hid (show ¬ c = 0 by simpa using h0)
    clear h0
    go_enter Tryd.func38, Tryd.ntmps38
    go_wp2
    go_loop [11] (fun i => ∃ k : Nat, k ≤ n ∧ i = .int .i64 k ∧ amongB l c = amongB (l.drop k) c) (fun i => n - (intOf i).toNat)
    case atStart => exact ⟨0, Nat.zero_le _, rfl, rfl⟩
    case round =>
      obtain ⟨k, hk, rfl, hr⟩ := hrel
      have HR := Lib.hid hr
      clear hr
      by_cases hlt : k < n
      · obtain ⟨ad, y, rfl, _, hy, hc⟩ := hrd.at_ hlt
        have HY := Lib.hid hy
        clear hy
        by_cases he : (y == c) = true
        · go_wp2
          go_ret
          refine ⟨_, rfl, ?_, Below.refl _ _⟩
          have e : amongB l c = true := by rw [HR.out, drop_step HY.out]; simp [amongB]; simp at he; simp [he]
          rw [withC, if_neg HC.out, if_pos e]; rw [HN.out]; exact h
        · have he' : (y == c) = false := by simpa using he
          clear he
          go_wp2
          go_round
          case rel => exact ⟨k + 1, by omega, by go_num, by rw [HR.out, drop_step HY.out]; simp [amongB]; simp at he'; simp [he']⟩
          case measure => simp [intOf]; omega
      · have HF : Hid (withC l c = l ++ [c]) := by
          show withC l c = l ++ [c]
          rw [withC, if_neg HC.out, if_neg]
          rw [HR.out, List.drop_of_length_le (by have := HN.out; omega)]
          simp [amongB]
        have hmk := World.ownsRow_made (base := w.heap.size) (e := 3) (size := 1) w #[] 0 (Nat.le_refl _) (by unfold maxLen; omega) rfl
        clear h
        go_wp2_with (at_builtin; go_loud (refine wpList_append_rd rfl (.tmp 20) (.tmp 21) 25 rfl w.heap.size 3 i0 (.int .i64 0) 1 8 Tryd.underlying25 hi hz0 hz1 hz2 rfl (by decide) _ _ _ rfl hmk w.heap.size A n cap _ rfl (Rd.alloc hrd (Nat.le_refl _) _) (ints_one l) ?c1 ?c2 ?c3 ?_))
        case c1 => unfold maxLen; omega
        case c2 => omega
        intro v1 w1 hown1 hgrow1 hat1
        have hs1 : w.heap.size + 1 ≤ w1.heap.size := by have := hgrow1.size; simpa using this
        have hb1 : Below w.heap.size w w1 := ((Below.refl _ w).alloc (Nat.le_refl _) _).grown hgrow1 (by simp) (fun k hk => by simp [Value.ownBlock] at hk; omega)
        have hlt1 := World.ownsRow.lt hown1
        have HL := Lib.hid hlt1
        clear hgrow1 hat1 hlt1 hmk
        go_wp2_with (at_builtin; go_loud (refine wpList_append_own _ rfl (.tmp 22) (.tmp 24) 25 rfl w.heap.size 3 i0 (.int .i64 0) 1 8 Tryd.underlying25 hi hz0 hz1 hz2 rfl (by decide) _ _ _ rfl (hown1.alloc _) ⟨w1.heap.size, 0, none⟩ 1 1 [.int .i64 c] rfl rfl ?d1 ?d2 ?d3 ?d4 ?d5 ?_))
        case d1 => exact cell_one_new _ _ _
        case d2 => intro u hu; simp at hu; subst hu; rfl
        case d3 => unfold maxLen; omega
        case d4 => omega
        case d5 => simp; omega
        intro v2 w2 hown2 hgrow2 _
        have hb2 : Below w.heap.size w w2 := (hb1.alloc (by omega) _).grown hgrow2 (by simp; omega) (fun k hk => by have := HL.out k hk; omega)
        clear hgrow2
        go_wp2
        go_ret
        refine ⟨v2, rfl, ?_, hb2⟩
        rw [HF.out]
        have := own_base hown2 (Nat.zero_le _)
        rw [HN.out] at this
        unfold OwnInts
        rw [List.length_append, List.map_append]
        exact this
end Go.Proofs.YtlclmpiocbkabaaDoor
