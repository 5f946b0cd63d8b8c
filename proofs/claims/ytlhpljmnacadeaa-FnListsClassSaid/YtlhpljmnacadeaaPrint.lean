/- Walks of the sequence of some colors and of text.colorize. Condition: sizes below the bounds that are named. -/
import Derived.Test.YtlhpljmnacadeaaEscape
import Derived.Test.YtlhpljmnacadeaaRead
namespace Go.Proofs.Ytlhpljmnacadeaa
open Go.RowKit

/-- The sequence of some colors (none of 256). -/
def seqL (l : List Int) : List UInt8 := if l = [] then [] else [27, 91] ++ Lib.join (l.map codeL) [59] ++ [109]

theorem infoStr : (Try.prog.info? 9).map (fun i => (i.zero, i.size, i.bytes)) = some (some (.string ⟨#[]⟩), 1, 16) := by kernel_rfl
def strOf (l : List UInt8) : Value := .string ⟨l.toArray⟩
theorem codes_len (l : List Int) (h : ∀ c ∈ l, 0 ≤ c ∧ c < 1000) : (Lib.join (l.map codeL) [59]).length ≤ 5 * l.length := by
  cases l with
  | nil => simp [Lib.join_nil]
  | cons x l =>
    have key : ∀ l : List Int, (∀ c ∈ l, 0 ≤ c ∧ c < 1000) → Lib.lens (l.map codeL) ≤ 4 * l.length := by
      intro l
      induction l with
      | nil => intro _; simp [Lib.lens]
      | cons y l ih =>
        intro h
        have h1 := ih fun c hc => h c (by simp [hc])
        have h2 := decL_len y.toNat (by have := h y (by simp); omega)
        simp only [List.map_cons, Lib.lens, List.sum_cons, List.length_cons, codeL] at *
        omega
    have h3 := key (x :: l) h
    rw [List.map_cons] at h3 ⊢
    rw [Lib.join_length]
    simp at *
    omega

set_option maxRecDepth 100000 in
set_option maxHeartbeats 2000000 in
theorem seqs_any (v : Value) (l : List Int) (w : World) (hl : l.length ≤ 65536) (hc : ∀ c ∈ l, 0 ≤ c ∧ c < 1000) (h : OwnInts w 61 v l) :
    Calls Try.prog 42 #[v] w fun e w' => e = .returned (.string ⟨(seqL l).toArray⟩) ∧ Below w.heap.size w w' := by
  obtain ⟨i0, hi, hz0, hz1, hz2⟩ := info_parts infoStr
  obtain ⟨A, cap, rfl, hrd⟩ := h.rd
  obtain ⟨n, hn⟩ : ∃ n, n = l.length := ⟨_, rfl⟩
  rw [← hn] at hrd hl ⊢
  have HN := Lib.hid hn
  clear h hn
  by_cases h0 : n = 0
  · have e : l = [] := List.eq_nil_of_length_eq_zero (by rw [← HN.out]; exact h0)
    have E := Lib.hid e
    subst h0
    clear e
    go_enter Try.func42, Try.ntmps42
    go_wp2
    go_ret
    exact ⟨ret_str (by rw [E.out]; rfl), Below.refl _ _⟩
  · have hn0 : ((n : Int) == 0) = false := by rw [beq_eq_false_iff_ne]; omega
    have hne := Lib.hid (show l ≠ [] by intro e; rw [e] at HN; exact h0 HN.out)
    have HC := Lib.hid hc
    clear h0 hc
    go_enter Try.func42, Try.ntmps42
    go_wp2_with (at_make; go_loud (refine wpList_make_own _ rfl _ _ 23 rfl w.heap.size 9 i0 (.string ⟨#[]⟩) 1 Try.underlying23 hi hz0 hz1 .i64 .i64 n n rfl rfl rfl ?b2 ?b3 (Nat.le_refl _) ?_))
    case b2 => rw [hz2]; omega
    case b3 => unfold maxLen; omega
    intro w1 hown1 hgrow1
    have hb1 : Below w.heap.size w w1 := (Below.refl _ w).grown hgrow1 (Nat.le_refl _) (fun k hk => by cases hk)
    clear hgrow1
    go_wp2
    go_loopw [3, 14] (fun v3 v14 wr => ∃ k : Nat, k ≤ n ∧ v14 = .int .i64 k ∧ wr.ownsRow w.heap.size 9 1 v3 k (((l.take k).map codeL).map strOf) ∧ Below w.heap.size w wr) (fun _ v14 _ => n - (intOf v14).toNat)
    case atStart => exact ⟨0, Nat.zero_le _, rfl, hown1, hb1⟩
    case round =>
      obtain ⟨k, hk, rfl, hown, hbw⟩ := hrel
      have hsz := hbw.size
      clear hown1 hb1
      by_cases hlt : k < n
      · obtain ⟨ad, y, rfl, _, hy, hcell⟩ := (hrd.below hbw).at_ hlt
        have hy01 := HC.out y (List.mem_of_getElem? hy)
        have HY := Lib.hid hy
        clear hy
        obtain ⟨hy0, hy1⟩ := hy01
        go_wp2_with (first | (go_at_call 60; refine (code_any _ y _ hy0 hy1).mono ?_; rintro e w2 ⟨rfl, hb2⟩; have hown2 := own_below hown hb2 (Nat.le_refl _); have hbw2 := hbw.trans (hb2.mono hsz); have hsz2 := hbw2.size; clear hown hbw hb2) | (at_builtin; go_loud (refine wpList_append_own _ rfl _ _ 23 rfl w.heap.size 9 i0 (.string ⟨#[]⟩) 1 16 Try.underlying23 hi hz0 hz1 hz2 rfl (by decide) _ _ _ rfl (hown2.alloc _) ⟨_, 0, none⟩ 1 1 [strOf (codeL y)] rfl rfl ?c1 ?c2 ?c3 ?c4 ?c5 ?_)))
        case c1 => exact cell_one_new _ _ _
        case c2 => intro u hu; simp at hu; subst hu; rfl
        case c3 => unfold maxLen; omega
        case c4 => omega
        case c5 => simp; omega
        intro v' w3 hown' hgrow _
        have hb3 : Below w.heap.size w w3 := (hbw2.alloc hsz2 _).grown hgrow (by simp; omega) (fun j hj => (World.ownsRow.lt hown2 _ hj).1)
        clear hgrow hown2 hbw2
        go_wp2
        go_roundw
        case rel => exact ⟨k + 1, by omega, by go_num, by rw [take_step HY.out, List.map_append, List.map_append, List.map_take]; first | exact hown' | simpa using hown', hb3⟩
        case measure => simp [intOf]; omega
      · have hkn : k = n := by omega
        subst hkn
        obtain ⟨A2, c2, hv, hr⟩ := own_rd hown
        rw [List.take_of_length_le (by rw [← HN.out]; exact Nat.le_refl _), List.map_map] at hr
        have hs2 : StrsAt wr wr.heap.size A2 k c2 (l.map fun c => ⟨(codeL c).toArray⟩) := by
          unfold StrsAt
          rw [List.map_map]
          exact hr
        subst hv
        have hjl := codes_len l HC.out
        have HJ := Lib.hid hjl
        have hjoin := Lib.hid (show (l.map fun c => (⟨(codeL c).toArray⟩ : ByteArray)).map bl = l.map codeL by rw [List.map_map]; rfl)
        clear hown hjl
        go_wp2_with fail
        refine (join_any _ _ _ _ _ _ hs2 (by omega) (by rw [hjoin.out]; exact Nat.le_trans HJ.out (by rw [← HN.out]; omega))).mono ?_
        rintro e w2 ⟨rfl, hb2⟩
        rw [hjoin.out]
        have hxs : (ByteArray.mk (Lib.join (l.map codeL) (bl ⟨#[59]⟩)).toArray).size ≤ 327680 := by rw [mk_size]; exact Nat.le_trans HJ.out (by rw [← HN.out]; omega)
        have HX := Lib.hid (show bl (ByteArray.mk (Lib.join (l.map codeL) (bl ⟨#[59]⟩)).toArray) = Lib.join (l.map codeL) [59] from rfl)
        generalize (ByteArray.mk (Lib.join (l.map codeL) (bl ⟨#[59]⟩)).toArray) = x at *
        go_wp2
        go_ret
        exact ⟨ret_str (by apply bl_ext; rw [bl_append, bl_append, HX.out, bl_mk, seqL, if_neg hne.out]), hbw.trans (hb2.mono hsz)⟩

set_option maxHeartbeats 1000000 in
theorem colorize_any (s q : ByteArray) (w : World) (hs : s.size ≤ 1099511627776) (hq : q.size ≤ 65536) (h2 : (esc2 (bl s) (bl q)).length ≤ 70368744177664) (hr : (escL (bl s) (bl q)).length ≤ 70368744177664) :
    Calls Try.prog 40 #[.string s, .string q] w fun e w' => e = .returned (.string (if bl q = [] then s else ⟨(escL (bl s) (bl q)).toArray⟩)) ∧ Below w.heap.size w w' := by
  by_cases h0 : bl q = []
  · have h0' : q.toList.isEmpty = true := by rw [Lib.toList_data, show q.data.toList = [] from h0]; rfl
    rw [if_pos h0]
    clear h0
    go_enter Try.func40, Try.ntmps40
    go_wp2
    go_ret
    exact ⟨rfl, Below.refl _ _⟩
  · have h0' : q.toList.isEmpty = false := by rw [Lib.toList_data]; cases e : q.data.toList with
      | nil => exact absurd e h0
      | cons _ _ => rfl
    rw [if_neg h0]
    clear h0
    go_enter Try.func40, Try.ntmps40
    go_wp2_with fail
    refine (escape_any s q _ hs hq h2 hr).mono ?_
    rintro e w2 ⟨rfl, hb2⟩
    go_wp2
    go_ret
    exact ⟨rfl, hb2⟩

/-- What a text with a color looks like (the sequence q; none: as it is). -/
def paintL (s q : List UInt8) : List UInt8 := if q = [] then s else escL s q
theorem paintL_ba (s q : ByteArray) : (if bl q = [] then s else ⟨(escL (bl s) (bl q)).toArray⟩) = ⟨(paintL (bl s) (bl q)).toArray⟩ := by
  unfold paintL; split
  · exact bl_ext rfl
  · rfl
end Go.Proofs.Ytlhpljmnacadeaa
