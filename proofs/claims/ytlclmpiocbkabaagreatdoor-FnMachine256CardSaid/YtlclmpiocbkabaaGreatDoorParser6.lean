/- Walk of the parser's Consume. Conditions: the library's tables as they are laid; sizes below the bounds that are named. -/
import Derived.Test.YtlclmpiocbkabaaGreatDoorParser5
import Derived.Deep.RegionLaw
import Derived.BigQuiet
namespace Go.Proofs.YtlclmpiocbkabaaGreatDoor
open Go.RowKit
set_option linter.unusedVariables false

theorem Kept.alloc {p : Nat} {w : World} (o : Obj) : Kept p w (w.alloc o) := fun k q h1 _ _ _ => (heap_alloc_old w o (Array.getElem?_eq_some_iff.1 h1).1).trans h1
theorem kept_bytes {w w' : World} {B p : Nat} {v : Value} {l : List UInt8} (h : OwnBytes w B 5 v l) (o : Obj) (hg : (w.alloc o).grownBy w' v.ownBlock) : Kept p w w' := fun k q h1 _ h3 _ => by
  have hk := (Array.getElem?_eq_some_iff.1 h1).1
  refine (hg.block k (by simp; omega) ?_).trans ((heap_alloc_old w o hk).trans h1)
  rcases h.2 with ⟨rfl, _⟩ | ⟨g, cap, cur, rfl, _, hh, _⟩
  · simp [Value.ownBlock]
  · intro he
    have he2 : some k = some g := he
    injection he2 with he2
    subst he2
    rw [h1] at hh
    injection hh with hh
    exact h3 _ _ hh
/-- A character is laid into the buffer. -/
theorem grown_buf {w w1 : World} {B p : Nat} {s : PS} {vm vb v' : Value} {r : Int} (hB : B ≤ w.heap.size) (hBp : B ≤ p) (hb : w.heap[p]? = some (.cells (pcells vm s.inE s.kind vb) 52 (0, 0))) (hv : CodesV w B vm s.codes) (ho : OwnBytes w B 5 vb s.buf) (o : Obj)
    (ho' : w1.ownsRow B 5 1 v' (s.buf.length + (Lib.runeCells r).length) (Lib.byteCells s.buf ++ Lib.runeCells r)) (hg : (w.alloc o).grownBy w1 vb.ownBlock) :
    (∃ g c, v' = .slice (some ⟨g, 0, none⟩) (grownP s r).buf.length c ∧ PBuf (w1.setCell ⟨p, 3, none⟩ v') B p (grownP s r) vm g c) ∧ w1.heap[p]? = some (.cells (pcells vm s.inE s.kind vb) 52 (0, 0)) ∧ Below B w (w1.setCell ⟨p, 3, none⟩ v') ∧ Kept p w (w1.setCell ⟨p, 3, none⟩ v') := by
  have hp := (Array.getElem?_eq_some_iff.1 hb).1
  have hne := bytes_ne ho hb
  have hb1 : w1.heap[p]? = some (.cells (pcells vm s.inE s.kind vb) 52 (0, 0)) := (hg.block p (by simp; omega) hne).trans ((heap_alloc_old w o hp).trans hb)
  have hob : OwnBytes w1 B 5 v' (grownP s r).buf := by
    unfold OwnBytes
    have e : Lib.byteCells (grownP s r).buf = Lib.byteCells s.buf ++ Lib.runeCells r := by
      show Lib.byteCells (s.buf ++ Lib.encodeRune r) = _
      rw [Lib.byteCells_append, Lib.byteCells_encodeRune]
    have e2 : (grownP s r).buf.length = s.buf.length + (Lib.runeCells r).length := by
      show (s.buf ++ Lib.encodeRune r).length = _
      rw [List.length_append, Lib.runeCells_length]
    rw [e, e2]
    exact ho'
  have hcv : CodesV w1 B vm s.codes := by
    rcases hv with q | ⟨b, q1, q2, q3⟩
    · exact Or.inl q
    · refine Or.inr ⟨b, q1, q2, q3.same ((hg.block b (by have := q3.lt; simp; omega) ?_).trans (heap_alloc_old w o q3.lt))⟩
      rcases ho.2 with ⟨rfl, _⟩ | ⟨g, cap, cur, rfl, _, hh, _⟩
      · simp [Value.ownBlock]
      · intro he
        have he2 : some b = some g := he
        injection he2 with he2
        subst he2
        obtain ⟨es, clock, hq, _⟩ := q3
        rw [hq] at hh
        cases hh
  have hbel : Below B w w1 := ((Below.refl B w).alloc hB o).grown hg (by simp; omega) (fun j hj => (World.ownsRow.lt ho j hj).1)
  have hlen : 1 ≤ (grownP s r).buf.length := by
    show 1 ≤ (s.buf ++ Lib.encodeRune r).length
    have := (Lib.runeCells_le r).1
    rw [Lib.runeCells_length] at this
    rw [List.length_append]
    omega
  refine ⟨?_, hb1, hbel.setCell hBp _, (kept_bytes ho o hg).trans kept_set⟩
  rcases hob.2 with ⟨_, h0⟩ | ⟨g, cap, cur, hvb, hgb, hh, hn, _⟩
  · omega
  · refine ⟨g, cap, hvb, ⟨hBp, ?_, hcv.set hb1, ?_, hn⟩⟩
    · have := heap_setCell_same w1 p 3 _ _ v' hb1
      rw [hvb] at this ⊢
      exact this
    · have := bytes_set (j := 3) (u := v') hob hb1
      rw [hvb] at this ⊢
      exact this

theorem bytes_kept {w w' : World} {B p : Nat} {v : Value} {l : List UInt8} {cs : Array Value} (h : OwnBytes w B 5 v l) (hb : w.heap[p]? = some (.cells cs 52 (0, 0))) (hk : KeptM p w w') : OwnBytes w' B 5 v l := by
  have hne := bytes_ne h hb
  obtain ⟨h1, h2⟩ := h
  refine ⟨h1, ?_⟩
  rcases h2 with h2 | ⟨g, cap, cur, hv, hg, hh, r⟩
  · exact Or.inl h2
  · refine Or.inr ⟨g, cap, cur, hv, hg, hk g _ hh ?_ (fun es cl e => by cases e), r⟩
    rintro rfl
    rw [hv] at hne
    exact hne rfl
theorem parse_any (B p g c : Nat) (s : PS) (vm : Value) (w : World) (h : PBuf w B p s vm g c) (hBw : B ≤ w.heap.size) (hT : TabsB B w) (hl : s.buf.length ≤ 3000) (hc : s.codes.length ≤ 90000) :
    Calls Tryz.prog 38 #[.pointer (some ⟨p, 0, none⟩), .string ⟨s.buf.toArray⟩, .int .i64 s.kind] w fun e w' => e = .returned (.tuple #[]) ∧ Pdone w w' B p s.parse := by
  have hsz : (⟨s.buf.toArray⟩ : ByteArray).size ≤ 100000 := by
    rw [← bl_size, bl_mk]; omega
  have fin : ∀ w', ParseDone w w' B p s.inE s.kind (.slice (some ⟨g, 0, none⟩) s.buf.length c) (parseSeq s.codes ⟨s.buf.toArray⟩ s.kind) → Pdone w w' B p s.parse := by
    rintro w' ⟨⟨b', hm, hb'⟩, hB, hK⟩
    exact ⟨⟨h.base, _, _, hm.blk, Or.inr ⟨b', rfl, hb', hm.set⟩, bytes_kept h.own h.blk hK⟩, hB, hK.kept⟩
  rcases h.codes with ⟨hv, h0⟩ | ⟨b, hv, hb, hs⟩
  · have hblk := h.blk
    rw [hv] at hblk
    refine (parseSeq_nil B p s.inE s.kind _ ⟨s.buf.toArray⟩ s.kind w hblk h.base hBw hT hsz).mono ?_
    rintro e w' ⟨rfl, hd⟩
    rw [← h0] at hd
    exact ⟨rfl, fin w' hd⟩
  · have hblk := h.blk
    rw [hv] at hblk
    refine (parseSeq_made B p b s.inE s.kind _ s.codes ⟨s.buf.toArray⟩ s.kind w ⟨hblk, hs⟩ h.base hb hBw hT hsz (by omega)).mono ?_
    rintro e w' ⟨rfl, hd⟩
    exact ⟨rfl, fin w' hd⟩
theorem PBuf.drewN {w : World} {B p g c : Nat} {s : PS} {vm : Value} (h : PBuf w B p s vm g c) (n : Nat) : PBuf (w.drewN n) B p s vm g c := h.below (below_drewN (Below.refl _ _) n)
/-- What the parser is told ahead of the character. -/
structure Ready (w : World) (B p : Nat) (s : PS) : Prop where
  at_ : PAt w B p s
  tabs : TabsB B w
  size : B ≤ w.heap.size
  buf : s.buf.length ≤ 2048
  few : s.codes.length ≤ 90000

set_option maxRecDepth 100000 in
set_option maxHeartbeats 2000000 in
theorem consume_out (B p : Nat) (s : PS) (r : Int) (w : World) (h : Ready w B p s) (hE : s.inE = false) (hr : r ≠ 27) :
    Calls Tryz.prog 23 #[.pointer (some ⟨p, 0, none⟩), .int .i32 r] w fun e w' => e = .returned (.tuple #[]) ∧ Pdone w w' B p (consume s r) := by
  have hc : consume s r = s := by
    have e : begun s r = s := by
      unfold begun
      rw [if_neg (fun q => hr q.2), if_neg (by rw [hE]; simp)]
    unfold consume
    rw [e, if_neg (by rw [hE]; simp)]
  rw [hc]
  have hat := h.at_
  obtain ⟨vm, vb, hb, _⟩ := hat.ex
  rw [hE] at hb
  have hc1 : w.cell? ⟨p, 1, none⟩ = some (.bool false) := cell_of_row w p 1 _ _ _ hb
  have q27 : (r == 27) = false := by rw [beq_eq_false_iff_ne]; exact hr
  clear hb hc
  go_enter Tryz.func23, Tryz.ntmps23
  go_wp2
  go_end0
  exact ⟨rfl, hat, Below.refl _ _, Kept.refl _ _⟩

set_option maxRecDepth 100000 in
set_option maxHeartbeats 4000000 in
theorem consume_in (B p : Nat) (s : PS) (r : Int) (w : World) (h : Ready w B p s) (hr : 0 ≤ r ∧ r ≤ 1114111) (hin : (begun s r).inE = true) :
    Calls Tryz.prog 23 #[.pointer (some ⟨p, 0, none⟩), .int .i32 r] w fun e w' => e = .returned (.tuple #[]) ∧ Pdone w w' B p (consume s r) := by
  obtain ⟨s1, hs1⟩ : ∃ s1, s1 = begun s r := ⟨_, rfl⟩
  rw [← hs1] at hin
  have hcons : consume s r = closeP (grownP s1 r) r := by
    unfold consume
    rw [← hs1, if_pos hin]
  have HC := Lib.hid hcons
  have HS1 := Lib.hid hs1
  have HIN := Lib.hid hin
  clear hcons hs1 hin
  obtain ⟨vm, vb, hb, hv, ho⟩ := h.at_.ex
  have hp := h.at_.lt
  have hBp := h.at_.base
  have hf1 := frozen_of_row w p 1 _ _ hb
  have hf2 := frozen_of_row w p 2 _ _ hb
  have hf3 := frozen_of_row w p 3 _ _ hb
  have hc1 : w.cell? ⟨p, 1, none⟩ = some (.bool s.inE) := cell_of_row w p 1 _ _ _ hb
  have hc2 : w.cell? ⟨p, 2, none⟩ = some (.int .i64 s.kind) := cell_of_row w p 2 _ _ _ hb
  have hc3 : w.cell? ⟨p, 3, none⟩ = some vb := cell_of_row w p 3 _ _ _ hb
  have same : s1 = s → PAt w B p s1 ∧ Below B w w ∧ Kept p w w := fun e => ⟨by rw [e]; exact h.at_, Below.refl _ _, Kept.refl _ _⟩
  have kinds : ∀ q : Int, s1 = { s with kind := q } → PAt (w.setCell ⟨p, 2, none⟩ (.int .i64 q)) B p s1 ∧ Below B w (w.setCell ⟨p, 2, none⟩ (.int .i64 q)) ∧ Kept p w (w.setCell ⟨p, 2, none⟩ (.int .i64 q)) := fun q e => by
    have b1 : (w.setCell ⟨p, 2, none⟩ (.int .i64 q)).heap[p]? = some (.cells (pcells vm s.inE q vb) 52 (0, 0)) := heap_setCell_same w p 2 _ _ _ hb
    rw [e]
    exact ⟨⟨hBp, vm, vb, b1, hv.set hb, bytes_set ho hb⟩, (Below.refl B w).setCell hBp _, kept_set⟩
  have opens : ∀ v, OwnBytes w B 5 v [] → s1 = { s with inE := true, kind := 0, buf := [] } → PAt (((w.setCell ⟨p, 1, none⟩ (.bool true)).setCell ⟨p, 2, none⟩ (.int .i64 0)).setCell ⟨p, 3, none⟩ v) B p s1 ∧ Below B w (((w.setCell ⟨p, 1, none⟩ (.bool true)).setCell ⟨p, 2, none⟩ (.int .i64 0)).setCell ⟨p, 3, none⟩ v) ∧ Kept p w (((w.setCell ⟨p, 1, none⟩ (.bool true)).setCell ⟨p, 2, none⟩ (.int .i64 0)).setCell ⟨p, 3, none⟩ v) := by
    intro v hv0 e
    have b1 : (w.setCell ⟨p, 1, none⟩ (.bool true)).heap[p]? = some (.cells (pcells vm true s.kind vb) 52 (0, 0)) := heap_setCell_same w p 1 _ _ _ hb
    have b2 : ((w.setCell ⟨p, 1, none⟩ (.bool true)).setCell ⟨p, 2, none⟩ (.int .i64 0)).heap[p]? = some (.cells (pcells vm true 0 vb) 52 (0, 0)) := heap_setCell_same _ p 2 _ _ _ b1
    have b3 : (((w.setCell ⟨p, 1, none⟩ (.bool true)).setCell ⟨p, 2, none⟩ (.int .i64 0)).setCell ⟨p, 3, none⟩ v).heap[p]? = some (.cells (pcells vm true 0 v) 52 (0, 0)) := heap_setCell_same _ p 3 _ _ _ b2
    rw [e]
    exact ⟨⟨hBp, vm, v, b3, ((hv.set hb).set b1).set b2, bytes_set (bytes_set (bytes_set hv0 hb) b1) b2⟩, (((Below.refl B w).setCell hBp _).setCell hBp _).setCell hBp _, (kept_set.trans kept_set).trans kept_set⟩
  have SAME := Lib.hid same
  have KINDS := Lib.hid kinds
  have OPENS := Lib.hid opens
  have HO := Lib.hid ho
  have HT := Lib.hid h.tabs
  have HSZ := Lib.hid h.size
  have HBUF : s1.buf.length ≤ 2048 := by
    rw [HS1.out]
    have := h.buf
    unfold begun
    repeat' split
    all_goals first | exact this | simp
  have HFEW : s1.codes.length ≤ 90000 := by
    rw [HS1.out]
    have := h.few
    unfold begun
    repeat' split
    all_goals exact this
  have HBF := Lib.hid HBUF
  have HFW := Lib.hid HFEW
  clear same kinds opens hb hv ho h HBUF HFEW
  go_enter Tryz.func23, Tryz.ntmps23
  go_upto_region 0 with (fail)
  go_cut [12] (fun v12 wx => (∃ q : Bool, v12 = .bool q ∧ Hid (q = (!s.inE && (r == 27)))) ∧ wx = w)
  case first =>
    cases hE : s.inE with
    | false =>
      have HQ := Lib.hid (show (r == 27) = (!s.inE && (r == 27)) by rw [hE]; rfl)
      go_wp2_with fail
      go_meet
      exact ⟨⟨_, rfl, HQ⟩, rfl⟩
    | true =>
      have HQ := Lib.hid (show false = (!s.inE && (r == 27)) by rw [hE]; rfl)
      go_wp2_with fail
      go_meet
      exact ⟨⟨_, rfl, HQ⟩, rfl⟩
  case rest =>
  obtain ⟨⟨q12, rfl, HQ⟩, hwc⟩ := hcut
  rw [hwc]
  clear hwc
  go_upto_if 12 with (fail)
  go_cut [] (fun wx => PAt wx B p s1 ∧ Below B w wx ∧ Kept p w wx)
  case first =>
    cases hE : s.inE with
    | false =>
      have hr27 : r = 27 := by
        by_cases q : r = 27
        · exact q
        · exfalso
          have h1 := HIN.out
          rw [HS1.out] at h1
          unfold begun at h1
          rw [if_neg (fun x => q x.2), if_neg (by rw [hE]; simp), hE] at h1
          cases h1
      have e1 := Lib.hid (show s1 = { s with inE := true, kind := 0, buf := [] } by rw [HS1.out]; unfold begun; rw [if_pos ⟨hE, hr27⟩])
      have hq12 : q12 = true := by rw [HQ.out, hE, hr27]; rfl
      subst hr27
      subst hq12
      rcases HO.out.2 with ⟨hvb, h0⟩ | ⟨g, cap, cur, hvb, hg, hh, hn, hm, _⟩
      · subst hvb
        have h1 : OwnBytes w B 5 (.slice none 0 0) [] := World.ownsRow_nil _ _ _ _
        have HX := Lib.hid (OPENS.out _ h1 e1.out)
        clear HO
        go_wp2_with fail
        go_meet
        exact HX.out
      · subst hvb
        have HX := Lib.hid (OPENS.out _ (bytes_none HO.out) e1.out)
        obtain ⟨n, hnn⟩ : ∃ n, n = s.buf.length := ⟨_, rfl⟩
        rw [← hnn] at hc3 hn
        clear HO hh hnn
        go_wp2_with fail
        go_meet
        exact HX.out
    | true =>
      have hq12 : q12 = false := by rw [HQ.out, hE]; rfl
      subst hq12
      by_cases k0 : s.kind = 0
      · by_cases r91 : r = 91
        · have HX := Lib.hid (KINDS.out 1 (by rw [HS1.out]; unfold begun; rw [if_neg (by rw [hE]; simp), if_pos ⟨hE, k0⟩, if_pos r91]))
          subst r91
          go_wp2_with fail
          go_meet
          exact HX.out
        · by_cases r93 : r = 93
          · have HX := Lib.hid (KINDS.out 2 (by rw [HS1.out]; unfold begun; rw [if_neg (by rw [hE]; simp), if_pos ⟨hE, k0⟩, if_neg r91, if_pos r93]))
            subst r93
            go_wp2_with fail
            go_meet
            exact HX.out
          · have HX := Lib.hid (SAME.out (by rw [HS1.out]; unfold begun; rw [if_neg (by rw [hE]; simp), if_pos ⟨hE, k0⟩, if_neg r91, if_neg r93]))
            go_wp2_with fail
            go_meet
            exact HX.out
      · have HX := Lib.hid (SAME.out (by rw [HS1.out]; unfold begun; rw [if_neg (by rw [hE]; simp), if_neg (fun x => k0 x.2)]))
        have q0 : (s.kind == 0) = false := by rw [beq_eq_false_iff_ne]; exact k0
        go_wp2_with fail
        go_meet
        exact HX.out
  case rest =>
    obtain ⟨hat, hBx, hKx⟩ := hcut
    obtain ⟨wx, hwx⟩ : ∃ q, q = wc := ⟨_, rfl⟩
    rw [← hwx] at hat hBx hKx ⊢
    clear hwx
    obtain ⟨vm1, vb1, hb1, hv1, ho1⟩ := hat.ex
    rw [HIN.out] at hb1
    have hx1 : wx.cell? ⟨p, 1, none⟩ = some (.bool true) := cell_of_row wx p 1 _ _ _ hb1
    have hx3 : wx.cell? ⟨p, 3, none⟩ = some vb1 := cell_of_row wx p 3 _ _ _ hb1
    have hBs : B ≤ wx.heap.size := Nat.le_trans HSZ.out hBx.size
    have HB1 := Lib.hid hb1
    have HV1 := Lib.hid hv1
    have HO1 := Lib.hid ho1
    clear hb1 hv1 ho1 hat SAME KINDS OPENS HO hc1 hc2 hc3 hf1 hf2 hf3
    go_wp2_with fail
    refine (Tryz.utf8_AppendRune_plain B vb1 _ _ r (by omega) (by omega) _ HO1.out (by have := HBF.out; omega) hBs).mono ?_
    rintro e w2 ⟨v', rfl, ho2, o, hg2⟩
    have hb1' : wx.heap[p]? = some (.cells (pcells vm1 s1.inE s1.kind vb1) 52 (0, 0)) := by rw [HIN.out]; exact HB1.out
    obtain ⟨⟨g, c, hv', hPB⟩, hb2, hB2, hK2⟩ := grown_buf hBs hBp hb1' HV1.out HO1.out o ho2 hg2
    have hf3 := frozen_of_row w2 p 3 _ _ hb2
    have hy3 : w2.cell? ⟨p, 3, none⟩ = some vb1 := cell_of_row w2 p 3 _ _ _ hb2
    subst hv'
    obtain ⟨s2, hs2⟩ : ∃ s2, s2 = grownP s1 r := ⟨_, rfl⟩
    rw [← hs2] at hPB hB2 hK2 ⊢
    have HS2 := Lib.hid hs2
    have hl2 : s2.buf.length ≤ 2052 := by
      rw [hs2]
      show (s1.buf ++ Lib.encodeRune r).length ≤ 2052
      have h4 := (Lib.runeCells_le r).2
      rw [Lib.runeCells_length] at h4
      have := HBF.out
      rw [List.length_append]
      omega
    have hf2 : s2.codes.length ≤ 90000 := by rw [hs2]; exact HFW.out
    have hE2 : s2.inE = true := by rw [hs2]; exact HIN.out
    have HCC := Lib.hid (show consume s r = closeP s2 r by rw [HC.out, hs2])
    have HL2 := Lib.hid hl2
    have HF2 := Lib.hid hf2
    clear hs2 hb2 ho2 hg2 HB1 HV1 HO1 hb1' HC HS1 HIN HBF HFW hl2 hf2 hx1 hx3
    go_upto_region 12 with (fail)
    obtain ⟨W2, hW2⟩ : ∃ W2, W2 = w2.setCell ⟨p, 3, none⟩ (.slice (some ⟨g, 0, none⟩) s2.buf.length c) := ⟨_, rfl⟩
    rw [← hW2] at hPB hB2 hK2 ⊢
    have hB02 := hBx.trans hB2
    have hK02 := hKx.trans hK2
    have hB2s : B ≤ W2.heap.size := Nat.le_trans hBs hB2.size
    clear hW2 hy3 hf3 hBx hKx hB2 hK2 hBs
    have hp2 := (Array.getElem?_eq_some_iff.1 hPB.blk).1
    have hz2 : W2.cell? ⟨p, 2, none⟩ = some (.int .i64 s2.kind) := cell_of_row W2 p 2 _ _ _ hPB.blk
    have hz3 : W2.cell? ⟨p, 3, none⟩ = some (.slice (some ⟨g, 0, none⟩) s2.buf.length c) := cell_of_row W2 p 3 _ _ _ hPB.blk
    obtain ⟨n, hn⟩ : ∃ n, n = s2.buf.length := ⟨_, rfl⟩
    rw [← hn] at hz3 ⊢
    have HN := Lib.hid hn
    have hcap : n ≤ c := by rw [hn]; exact hPB.cap
    clear hn
    by_cases hlong : 2048 < n
    · have hq : (2048 : Int) < (n : Int) := by omega
      go_wp2_with fail
      refine (preset_any B p s2 _ hPB.at_).mono ?_
      rintro e w3 ⟨rfl, hd1, hd2, hd3⟩
      go_wp2
      (try simp only [Exit.inBlock, Exit.then])
      refine bodyPost_ret (results_none rfl _ _ _) rfl ?_
      refine ⟨rfl, ?_, hB02.trans hd2, hK02.trans hd3⟩
      have e : consume s r = s2.reset := by rw [HCC.out]; unfold closeP; rw [if_pos (by rw [← HN.out]; exact hlong)]
      rw [e]
      exact hd1
    · have hq : ¬ (2048 : Int) < (n : Int) := by omega
      have hnl : ¬ 2048 < s2.buf.length := by rw [← HN.out]; exact hlong
      have HNL := Lib.hid hnl
      have hbel := lit_below W2 #[.int .u8 27, .int .u8 93, .int .u8 56, .int .u8 59]
      have hlit := lit_new W2 #[.int .u8 27, .int .u8 93, .int .u8 56, .int .u8 59]
      have hcv := conv_lit W2 #[.int .u8 27, .int .u8 93, .int .u8 56, .int .u8 59] 4 4
      obtain ⟨W3, hW3⟩ : ∃ W3, W3 = litW W2 #[.int .u8 27, .int .u8 93, .int .u8 56, .int .u8 59] := ⟨_, rfl⟩
      rw [← hW3] at hbel hlit hcv
      clear hW3
      have hcon := hasPre_any (w := W3) (m := 4) (d := 4) (hPB.below hbel).own hPB.cap OSI8 hlit rfl
      rw [← HN.out] at hcon
      have HCON := Lib.hid hcon
      have HBEL := Lib.hid hbel
      clear hcon hlit hnl hbel
      go_upto_region 14 with (fail)
      go_cut [87] (fun v87 wx => (∃ q : Bool, v87 = .bool q ∧ Hid (q = (decide (s2.kind = 2) && OSI8.isPrefixOf s2.buf && decide (r = 7)))) ∧ Below W2.heap.size W2 wx)
      case first =>
        by_cases k2 : s2.kind = 2
        · rw [k2] at hz2
          cases hpre : OSI8.isPrefixOf s2.buf with
          | true =>
            by_cases r7 : r = 7
            · have HQQ := Lib.hid (show true = (decide (s2.kind = 2) && OSI8.isPrefixOf s2.buf && decide (r = 7)) by rw [hpre]; simp [k2, r7])
              subst r7
              go_wp2_with fail
              refine HCON.out.mono ?_
              rintro e w3 ⟨rfl, rfl⟩
              rw [hpre]
              go_wp2_with fail
              go_meet
              exact ⟨⟨_, rfl, HQQ⟩, HBEL.out⟩
            · have HQQ := Lib.hid (show false = (decide (s2.kind = 2) && OSI8.isPrefixOf s2.buf && decide (r = 7)) by simp [r7])
              have q7 : (r == 7) = false := by rw [beq_eq_false_iff_ne]; exact r7
              go_wp2_with fail
              refine HCON.out.mono ?_
              rintro e w3 ⟨rfl, rfl⟩
              rw [hpre]
              go_wp2_with fail
              go_meet
              exact ⟨⟨_, rfl, HQQ⟩, HBEL.out⟩
          | false =>
            have HQQ := Lib.hid (show false = (decide (s2.kind = 2) && OSI8.isPrefixOf s2.buf && decide (r = 7)) by rw [hpre]; simp)
            go_wp2_with fail
            refine HCON.out.mono ?_
            rintro e w3 ⟨rfl, rfl⟩
            rw [hpre]
            go_wp2_with fail
            go_meet
            exact ⟨⟨_, rfl, HQQ⟩, HBEL.out⟩
        · have HQQ := Lib.hid (show false = (decide (s2.kind = 2) && OSI8.isPrefixOf s2.buf && decide (r = 7)) by simp [k2])
          have q2 : (s2.kind == 2) = false := by rw [beq_eq_false_iff_ne]; exact k2
          go_wp2_with fail
          go_meet
          exact ⟨⟨_, rfl, HQQ⟩, Below.refl _ _⟩
      case rest =>
        obtain ⟨⟨q87, rfl, HQ7⟩, hbx⟩ := hcut
        obtain ⟨W4, hW4⟩ : ∃ q, q = wc := ⟨_, rfl⟩
        rw [← hW4] at hbx ⊢
        clear hW4 HCON HBEL hcv hz2 hz3
        have hPB4 := hPB.below hbx
        have hB04 := hB02.trans (hbx.mono hB2s)
        have hK04 := hK02.trans (Kept.below hbx)
        have hB4s : B ≤ W4.heap.size := Nat.le_trans hB2s hbx.size
        clear hPB hB02 hK02 hB2s hbx hp2
        have hp4 := (Array.getElem?_eq_some_iff.1 hPB4.blk).1
        have hz2 : W4.cell? ⟨p, 2, none⟩ = some (.int .i64 s2.kind) := cell_of_row W4 p 2 _ _ _ hPB4.blk
        have hz3 : W4.cell? ⟨p, 3, none⟩ = some (.slice (some ⟨g, 0, none⟩) n c) := by rw [HN.out]; exact cell_of_row W4 p 3 _ _ _ hPB4.blk
        cases hq : q87 with
        | true =>
          subst hq
          have hstr := run_str_own (P := Tryz.prog) hPB4.own 50 9 Tryz.underlying50 Tryz.underlying5 Tryz.underlying9
          rw [← HN.out] at hstr
          have HCL := Lib.hid (show consume s r = s2.parse.reset by
            have h7 := HQ7.out
            rw [eq_comm, Bool.and_eq_true, Bool.and_eq_true, decide_eq_true_eq, decide_eq_true_eq] at h7
            rw [HCC.out]
            unfold closeP
            rw [if_neg HNL.out, if_pos ⟨h7.1.1, h7.1.2, h7.2⟩])
          have hPBd : PBuf W4.drew B p s2 vm1 g c := hPB4.below ((Below.refl _ _).drew)
          have hstr2 := run_str_own (P := Tryz.prog) hPBd.own 50 9 Tryz.underlying50 Tryz.underlying5 Tryz.underlying9
          rw [← HN.out] at hstr2
          have hT4 : TabsB B W4.drew := (HT.out.then hB04).then ((Below.refl _ _).drew)
          have hBd : Below B w W4.drew := hB04.drew
          have hKd : Kept p w W4.drew := hK04
          go_upto_region 15 with (fail)
          go_region_law (first
            | ((try go_simp); go_at_call 38; go_loud (refine (parse_any B p g c s2 vm1 W4.drew (hPBd) hB4s hT4 (by have := HL2.out; omega) HF2.out).mono ?_); rintro e w5 ⟨rfl, hd1, hd2, hd3⟩))
          all_goals
            go_wp2_with fail
            refine (preset_any B p s2.parse _ hd1).mono ?_
            rintro e w6 ⟨rfl, he1, he2, he3⟩
            go_wp2
            (try simp only [Exit.inBlock, Exit.then])
            refine bodyPost_ret (results_none rfl _ _ _) rfl ?_
            exact ⟨rfl, by rw [HCL.out]; exact he1, (hBd.trans hd2).trans he2, (hKd.trans hd3).trans he3⟩
        | false =>
          subst hq
          go_wp2_with fail
          refine (stopRune_any B p g c s2 vm1 r _ hPB4 (by have := HL2.out; omega)).mono ?_
          rintro e W5 ⟨rfl, hb5⟩
          have hno : ¬ (s2.kind = 2 ∧ OSI8.isPrefixOf s2.buf = true ∧ r = 7) := by
            rintro ⟨q1, q2, q3⟩
            have h7 := HQ7.out
            rw [q2, decide_eq_true q1, decide_eq_true q3] at h7
            cases h7
          have HNO := Lib.hid hno
          clear hno hz2 hz3
          have hPB5 := hPB4.below hb5
          have hB05 := hB04.trans (hb5.mono hB4s)
          have hK05 := hK04.trans (Kept.below hb5)
          have hB5s : B ≤ W5.heap.size := Nat.le_trans hB4s hb5.size
          clear hPB4 hB04 hK04 hB4s hb5 hp4
          have hp5 := (Array.getElem?_eq_some_iff.1 hPB5.blk).1
          have hz2 : W5.cell? ⟨p, 2, none⟩ = some (.int .i64 s2.kind) := cell_of_row W5 p 2 _ _ _ hPB5.blk
          have hz3 : W5.cell? ⟨p, 3, none⟩ = some (.slice (some ⟨g, 0, none⟩) n c) := by rw [HN.out]; exact cell_of_row W5 p 3 _ _ _ hPB5.blk
          cases hst : stopB s2.buf s2.kind r with
          | true =>
            have HCL := Lib.hid (show consume s r = s2.parse.reset by
              rw [HCC.out]
              unfold closeP
              rw [if_neg HNL.out, if_neg HNO.out, if_pos hst])
            have hPBd : PBuf W5.drew B p s2 vm1 g c := hPB5.below ((Below.refl _ _).drew)
            have hstr := run_str_own (P := Tryz.prog) hPB5.own 50 9 Tryz.underlying50 Tryz.underlying5 Tryz.underlying9
            rw [← HN.out] at hstr
            have hstr2 := run_str_own (P := Tryz.prog) hPBd.own 50 9 Tryz.underlying50 Tryz.underlying5 Tryz.underlying9
            rw [← HN.out] at hstr2
            have hT5 : TabsB B W5.drew := (HT.out.then hB05).then ((Below.refl _ _).drew)
            have hBd : Below B w W5.drew := hB05.drew
            have hKd : Kept p w W5.drew := hK05
            go_upto_region 18 with (fail)
            go_region_law (first
              | ((try go_simp); go_at_call 38; go_loud (refine (parse_any B p g c s2 vm1 W5.drew (hPBd) hB5s hT5 (by have := HL2.out; omega) HF2.out).mono ?_); rintro e w5 ⟨rfl, hd1, hd2, hd3⟩))
            all_goals
              go_wp2_with fail
              refine (preset_any B p s2.parse _ hd1).mono ?_
              rintro e w6 ⟨rfl, he1, he2, he3⟩
              go_wp2
              go_end0
              exact ⟨rfl, by rw [HCL.out]; exact he1, (hBd.trans hd2).trans he2, (hKd.trans hd3).trans he3⟩
          | false =>
            have HCL := Lib.hid (show consume s r = s2 by
              rw [HCC.out]
              unfold closeP
              rw [if_neg HNL.out, if_neg HNO.out, if_neg (by rw [hst]; simp)])
            go_wp2
            go_end0
            exact ⟨rfl, by rw [HCL.out]; exact hPB5.at_, hB05, hK05⟩

theorem consume_any (B p : Nat) (s : PS) (r : Int) (w : World) (h : Ready w B p s) (hr : 0 ≤ r ∧ r ≤ 1114111) :
    Calls Tryz.prog 23 #[.pointer (some ⟨p, 0, none⟩), .int .i32 r] w fun e w' => e = .returned (.tuple #[]) ∧ Pdone w w' B p (consume s r) := by
  cases hE : s.inE with
  | false =>
    by_cases h27 : r = 27
    · refine consume_in B p s r w h hr ?_
      unfold begun
      rw [if_pos ⟨hE, h27⟩]
    · exact consume_out B p s r w h hE h27
  | true =>
    refine consume_in B p s r w h hr ?_
    unfold begun
    rw [if_neg (by rw [hE]; simp)]
    repeat' split
    all_goals exact hE
end Go.Proofs.YtlclmpiocbkabaaGreatDoor
