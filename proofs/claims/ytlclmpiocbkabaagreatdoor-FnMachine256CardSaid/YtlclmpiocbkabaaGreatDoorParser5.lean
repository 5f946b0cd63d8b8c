/- Walks of the parser's isEscapeStopRune and Consume. Conditions: as each says. -/
import Derived.Test.YtlclmpiocbkabaaGreatDoorParser4
namespace Go.Proofs.YtlclmpiocbkabaaGreatDoor
open Go.RowKit
set_option linter.unusedVariables false

theorem bytesOf_chars (l : List UInt8) : Lib.bytesOf (l.map fun b => (b.toNat : Int)) = l := by
  unfold Lib.bytesOf
  rw [List.map_map]
  conv => rhs; rw [← List.map_id l]
  apply List.map_congr_left
  intro b _
  simp
theorem own_cell8 {w : World} {B g c : Nat} {l : List UInt8} (h : OwnBytes w B 5 (.slice (some ⟨g, 0, none⟩) l.length c) l) : ∀ i, i < l.length → w.cell? ⟨g, 0 + i, none⟩ = some (.int .u8 ((l.map fun b => (b.toNat : Int)).getD i 0)) := by
  intro i hi
  rw [Nat.zero_add, World.ownsRow.cellAt h i (by omega)]
  have e : (l.map fun b => (b.toNat : Int))[i]? = some ((l[i].toNat : Nat) : Int) := by rw [List.getElem?_map, List.getElem?_eq_getElem hi]; rfl
  rw [List.getD_eq_getElem?_getD, e]
  unfold Lib.byteCells
  rw [List.getElem?_map, List.getElem?_eq_getElem hi]
  rfl
theorem lit_cell8 {w : World} {k : Nat} {q : List UInt8} {fr : Nat × Nat} (h : w.heap[k]? = some (.cells (Lib.byteCells q).toArray 5 fr)) : ∀ i, i < q.length → w.cell? ⟨k, 0 + i, none⟩ = some (.int .u8 ((q.map fun b => (b.toNat : Int)).getD i 0)) := by
  intro i hi
  rw [Nat.zero_add, cell_of_row w k i _ _ _ h]
  have e : (q.map fun b => (b.toNat : Int))[i]? = some ((q[i].toNat : Nat) : Int) := by rw [List.getElem?_map, List.getElem?_eq_getElem hi]; rfl
  rw [List.getD_eq_getElem?_getD, e]
  unfold Lib.byteCells
  simp [hi]
theorem hasPre_any {w : World} {B g c k m d : Nat} {l : List UInt8} (h : OwnBytes w B 5 (.slice (some ⟨g, 0, none⟩) l.length c) l) (hlc : l.length ≤ c) (q : List UInt8) {fr : Nat × Nat} (hq : w.heap[k]? = some (.cells (Lib.byteCells q).toArray 5 fr)) (hm : q.length = m) :
    Calls Tryz.prog 37 #[.slice (some ⟨g, 0, none⟩) l.length c, .slice (some ⟨k, 0, none⟩) m d] w fun e w' => e = .returned (.bool (q.isPrefixOf l)) ∧ w = w' := by
  subst hm
  refine (Tryz.bytes_HasPrefix g 0 l.length c k 0 q.length d _ _ w (by simp) (by simp) hlc (own_cell8 h) (lit_cell8 hq)).mono ?_
  rintro e w' ⟨rfl, rfl⟩
  rw [bytesOf_chars, bytesOf_chars]
  exact ⟨rfl, rfl⟩
theorem hasSuf_any {w : World} {B g c k m d : Nat} {l : List UInt8} (h : OwnBytes w B 5 (.slice (some ⟨g, 0, none⟩) l.length c) l) (hlc : l.length ≤ c) (hbig : l.length ≤ 1000000) (q : List UInt8) {fr : Nat × Nat} (hq : w.heap[k]? = some (.cells (Lib.byteCells q).toArray 5 fr)) (hm : q.length = m) :
    Calls Tryz.prog 52 #[.slice (some ⟨g, 0, none⟩) l.length c, .slice (some ⟨k, 0, none⟩) m d] w fun e w' => e = .returned (.bool (q.isSuffixOf l)) ∧ w = w' := by
  subst hm
  refine (Tryz.bytes_HasSuffix g 0 l.length c k 0 q.length d _ _ w (by simp) (by simp) hlc (by omega) (own_cell8 h) (lit_cell8 hq)).mono ?_
  rintro e w' ⟨rfl, rfl⟩
  rw [bytesOf_chars, bytesOf_chars]
  exact ⟨rfl, rfl⟩

/-- The world behind a literal of bytes that is made of a constant. -/
def litW (w : World) (cs : Array Value) : World := (w.alloc (.cells cs 5)).freeze ⟨w.heap.size, cs.size, none⟩ 1
theorem conv_lit (w : World) (cs : Array Value) (n c : Nat) : (convert 50 50 (.slice (some ⟨w.heap.size, 0, none⟩) n c)).run Tryz.prog (w.alloc (.cells cs 5)) = .ok (.slice (some ⟨w.heap.size, 0, none⟩) n c) (litW w cs) := by
  have hsh : (w.alloc (.cells cs 5)).shape? w.heap.size = some (5, cs.size) := by
    simp [World.shape?, World.alloc, -World.alloc_eq]
  simp [convert, run_underlying Tryz.underlying50, run_underlying Tryz.underlying5, markStringish, hsh, litW, Result.andThen]
theorem lit_old (w : World) (cs : Array Value) (j : Nat) (hj : j < w.heap.size) : (litW w cs).heap[j]? = w.heap[j]? := by
  have h1 : w.heap.size ≠ j := by omega
  simp [litW, World.freeze, World.alloc, -World.alloc_eq, Array.getElem?_modify, Array.getElem?_push, h1, Ne.symm h1]
theorem lit_new (w : World) (cs : Array Value) : (litW w cs).heap[w.heap.size]? = some (.cells cs 5 (cs.size, cs.size + 1)) := by
  simp [litW, World.freeze, World.alloc, -World.alloc_eq]
  rw [Array.getElem_modify_self]
  simp
theorem lit_size (w : World) (cs : Array Value) : (litW w cs).heap.size = w.heap.size + 1 := by
  simp [litW, World.freeze, World.alloc, -World.alloc_eq]
theorem lit_below (w : World) (cs : Array Value) : Below w.heap.size w (litW w cs) := ⟨rfl, rfl, rfl, by rw [lit_size]; omega, fun j hj => lit_old w cs j hj⟩
/-- The parser with characters in its buffer. -/
structure PBuf (w : World) (B p : Nat) (s : PS) (vm : Value) (g c : Nat) : Prop where
  base : B ≤ p
  blk : w.heap[p]? = some (.cells (pcells vm s.inE s.kind (.slice (some ⟨g, 0, none⟩) s.buf.length c)) 52 (0, 0))
  codes : CodesV w B vm s.codes
  own : OwnBytes w B 5 (.slice (some ⟨g, 0, none⟩) s.buf.length c) s.buf
  cap : s.buf.length ≤ c
theorem PAt.buf {w : World} {B p : Nat} {s : PS} (h : PAt w B p s) (hne : s.buf ≠ []) : ∃ vm g c, PBuf w B p s vm g c := by
  obtain ⟨vm, vb, hb, hv, ho⟩ := h.ex
  rcases ho.2 with ⟨_, h0⟩ | ⟨g, cap, cur, hvb, hg, hh, hn, _⟩
  · exact absurd (List.eq_nil_of_length_eq_zero h0) hne
  · subst hvb
    exact ⟨vm, g, cap, h.base, hb, hv, ho, hn⟩
theorem PBuf.at_ {w : World} {B p g c : Nat} {s : PS} {vm : Value} (h : PBuf w B p s vm g c) : PAt w B p s := ⟨h.base, vm, _, h.blk, h.codes, h.own⟩
theorem PBuf.below {w w' : World} {B p g c : Nat} {s : PS} {vm : Value} (h : PBuf w B p s vm g c) (hb : Below w.heap.size w w') : PBuf w' B p s vm g c :=
  ⟨h.base, (hb.block p (Array.getElem?_eq_some_iff.1 h.blk).1).trans h.blk, by
    rcases h.codes with q | ⟨b, q1, q2, q3⟩
    · exact Or.inl q
    · exact Or.inr ⟨b, q1, q2, q3.below hb q3.lt⟩, own_below h.own hb (Nat.le_refl _), h.cap⟩

set_option maxRecDepth 100000 in
set_option maxHeartbeats 2000000 in
theorem stopRune_any (B p g c : Nat) (s : PS) (vm : Value) (r : Int) (w : World) (h : PBuf w B p s vm g c) (hbig : s.buf.length ≤ 1000000) :
    Calls Tryz.prog 39 #[.pointer (some ⟨p, 0, none⟩), .int .i32 r] w fun e w' => e = .returned (.bool (stopB s.buf s.kind r)) ∧ Below w.heap.size w w' := by
  obtain ⟨hp, hb, hv, ho, hcap⟩ := h
  have hp := (Array.getElem?_eq_some_iff.1 hb).1
  have hbel := lit_below w #[.int .u8 27, .int .u8 93, .int .u8 56, .int .u8 59]
  have hlit := lit_new w #[.int .u8 27, .int .u8 93, .int .u8 56, .int .u8 59]
  have hcv := conv_lit w #[.int .u8 27, .int .u8 93, .int .u8 56, .int .u8 59] 4 4
  have hsz := lit_size w #[.int .u8 27, .int .u8 93, .int .u8 56, .int .u8 59]
  obtain ⟨W1, hW1⟩ : ∃ W1, W1 = litW w #[.int .u8 27, .int .u8 93, .int .u8 56, .int .u8 59] := ⟨_, rfl⟩
  rw [← hW1] at hbel hlit hcv hsz
  have HSZ := Lib.hid hsz
  clear hW1 hsz
  have hc2 : w.cell? ⟨p, 2, none⟩ = some (.int .i64 s.kind) := cell_of_row w p 2 _ _ _ hb
  have hc3 : w.cell? ⟨p, 3, none⟩ = some (.slice (some ⟨g, 0, none⟩) s.buf.length c) := cell_of_row w p 3 _ _ _ hb
  have ho1 := own_below ho hbel (Nat.le_refl _)
  obtain ⟨n, hn⟩ : ∃ n, n = s.buf.length := ⟨_, rfl⟩
  have hcon := hasPre_any (w := W1) (m := 4) (d := 4) ho1 hcap OSI8 hlit rfl
  rw [← hn] at hc3 hcon
  have HC := Lib.hid hcon
  have HB := Lib.hid hbel
  have HN := Lib.hid hn
  have hcp := hbel.cell (p := ⟨p, 3, none⟩) hp
  have hcp3 : W1.cell? ⟨p, 3, none⟩ = some (.slice (some ⟨g, 0, none⟩) n c) := hcp.trans hc3
  have hcp2 : W1.cell? ⟨p, 2, none⟩ = some (.int .i64 s.kind) := (hbel.cell (p := ⟨p, 2, none⟩) hp).trans hc2
  clear hn hcp
  cases hpre : OSI8.isPrefixOf s.buf with
  | true =>
    have HS := Lib.hid (show stopB s.buf s.kind r = ST.isSuffixOf s.buf by unfold stopB; rw [if_pos hpre])
    have hbel2 := hbel.trans ((lit_below W1 #[.int .u8 27, .int .u8 92]).mono hbel.size)
    have hlit2 := lit_new W1 #[.int .u8 27, .int .u8 92]
    have hcv2 := conv_lit W1 #[.int .u8 27, .int .u8 92] 2 2
    obtain ⟨W2, hW2⟩ : ∃ W2, W2 = litW W1 #[.int .u8 27, .int .u8 92] := ⟨_, rfl⟩
    rw [← hW2] at hbel2 hlit2 hcv2
    clear hW2
    have ho2 := own_below ho hbel2 (Nat.le_refl _)
    have hcon2 := hasSuf_any (m := 2) (d := 2) ho2 hcap hbig ST hlit2 rfl
    rw [← HN.out] at hcon2
    have HC2 := Lib.hid hcon2
    have HB2 := Lib.hid hbel2
    have HP := Lib.hid hpre
    clear hpre hcon hbel hlit hb hv ho ho1 hcap hcon2 hbel2 hlit2 ho2
    go_enter Tryz.func39, Tryz.ntmps39
    go_wp2_with fail
    refine HC.out.mono ?_
    rintro e w1 ⟨rfl, rfl⟩
    rw [HP.out]
    go_wp2_with fail
    refine HC2.out.mono ?_
    rintro e w1 ⟨rfl, rfl⟩
    cases hsf : ST.isSuffixOf s.buf with
    | true =>
      go_wp2
      go_ret
      exact ⟨ret_bool (by rw [HS.out, hsf]), HB2.out⟩
    | false =>
      go_wp2
      go_ret
      exact ⟨ret_bool (by rw [HS.out, hsf]), HB2.out⟩
  | false =>
    have HS := Lib.hid (show stopB s.buf s.kind r = ((decide (s.kind = 1) && decide (r = 109)) || (decide (s.kind = 2) && decide (r = 92))) by unfold stopB; rw [if_neg (by rw [hpre]; simp)])
    have HP := Lib.hid hpre
    clear hpre hcon hbel hlit hb hv ho ho1 hcap
    by_cases k1 : s.kind = 1
    · by_cases r1 : r = 109
      · rw [k1] at hc2 hcp2
        subst r1
        go_enter Tryz.func39, Tryz.ntmps39
        go_wp2_with fail
        refine HC.out.mono ?_
        rintro e w1 ⟨rfl, rfl⟩
        rw [HP.out]
        go_wp2
        go_ret
        exact ⟨ret_bool (by rw [HS.out, k1]; rfl), HB.out⟩
      · rw [k1] at hc2 hcp2
        have q1 : (r == 109) = false := by rw [beq_eq_false_iff_ne]; exact r1
        go_enter Tryz.func39, Tryz.ntmps39
        go_wp2_with fail
        refine HC.out.mono ?_
        rintro e w1 ⟨rfl, rfl⟩
        rw [HP.out]
        go_wp2
        go_ret
        exact ⟨ret_bool (by rw [HS.out, k1]; simp [r1]), HB.out⟩
    · have q1 : (s.kind == 1) = false := by rw [beq_eq_false_iff_ne]; exact k1
      by_cases k2 : s.kind = 2
      · by_cases r2 : r = 92
        · rw [k2] at hc2 hcp2
          subst r2
          go_enter Tryz.func39, Tryz.ntmps39
          go_wp2_with fail
          refine HC.out.mono ?_
          rintro e w1 ⟨rfl, rfl⟩
          rw [HP.out]
          go_wp2
          go_ret
          exact ⟨ret_bool (by rw [HS.out, k2]; rfl), HB.out⟩
        · rw [k2] at hc2 hcp2
          have q3 : (r == 92) = false := by rw [beq_eq_false_iff_ne]; exact r2
          go_enter Tryz.func39, Tryz.ntmps39
          go_wp2_with fail
          refine HC.out.mono ?_
          rintro e w1 ⟨rfl, rfl⟩
          rw [HP.out]
          go_wp2
          go_ret
          exact ⟨ret_bool (by rw [HS.out, k2]; simp [r2]), HB.out⟩
      · have q2 : (s.kind == 2) = false := by rw [beq_eq_false_iff_ne]; exact k2
        go_enter Tryz.func39, Tryz.ntmps39
        go_wp2_with fail
        refine HC.out.mono ?_
        rintro e w1 ⟨rfl, rfl⟩
        rw [HP.out]
        go_wp2
        go_ret
        exact ⟨ret_bool (by rw [HS.out]; simp [k1, k2]), HB.out⟩
end Go.Proofs.YtlclmpiocbkabaaGreatDoor
