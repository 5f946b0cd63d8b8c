/- Walk of laws.FnPaintEscape: it answers true and writes nothing that was there. Condition: the table of powers of ten reads as it was laid. -/
import Derived.Test.YtaebdgjebdjlaaaDoorEscWalk
namespace Go.Proofs.YtaebdgjebdjlaaaDoor
open Go.RowKit

theorem chars_len (l : List UInt8) : (chars l).length = l.length := by unfold chars; simp
theorem esc_len {c : Int} (hc : 0 < c ∧ c < 1000) {l : List Piece} (h : ∀ p ∈ l, GoodP p) (hl : l.length ≤ 40) (hg : ∀ s ∈ l, s.text.size ≤ 500 ∧ s.codes.length ≤ 4 ∧ ∀ x ∈ s.codes, 0 ≤ x ∧ x < 1000) :
    (esc2 (writtenL l) (seqL [c])).length ≤ 60000 ∧ (escL (writtenL l) (seqL [c])).length ≤ 60000 := by
  have hq := seq_size [c] (by intro x hx; simp at hx; subst hx; omega)
  have hq1 : (seqL [c]).length ≤ 8 := hq
  have key : ∀ l : List Piece, (∀ s ∈ l, s.text.size ≤ 500 ∧ s.codes.length ≤ 4 ∧ ∀ x ∈ s.codes, 0 ≤ x ∧ x < 1000) → (l.flatMap (colP c)).length ≤ 600 * l.length := by
    intro l
    induction l with
    | nil => intro _; simp
    | cons p l ih =>
      intro hg
      have h1 := ih fun s hs => hg s (by simp [hs])
      have h2 := hg p (by simp)
      have h3 := seq_size p.codes h2.2.2
      have h4 := h2.1
      rw [← bl_size] at h4
      have h5 : (colP c p).length ≤ 12 + (seqL p.codes).length + (bl p.text).length := by
        unfold colP
        have hR : RESET.length = 4 := rfl
        split <;> simp only [List.length_append] <;> omega
      rw [List.flatMap_cons, List.length_append, List.length_cons]
      omega
  have hR : RESET.length = 4 := rfl
  cases l with
  | nil =>
    have e1 : (esc1 (writtenL []) (seqL [c])).length ≤ 8 := by
      show (escPre [] (seqL [c]) ++ replL RESET _ []).length ≤ 8
      rw [replL_nil, List.append_nil]; exact hq1
    have e2 : (esc2 (writtenL []) (seqL [c])).length ≤ 12 := by
      unfold esc2
      rw [List.length_append]
      have : (escPost (esc1 (writtenL []) (seqL [c]))).length ≤ 4 := by unfold escPost; split <;> simp [RESET]
      omega
    have e3 : (escL (writtenL []) (seqL [c])).length ≤ 60000 := by
      have := escaped_nil hc
      rw [this]; simp
    exact ⟨by omega, e3⟩
  | cons p l =>
    obtain ⟨e1, e2⟩ := escaped_text hc p l h
    have hk := key (p :: l) hg
    have hpre : (if p.codes = [] then seqL [c] else []).length ≤ 8 := by
      split
      · exact hq1
      · simp
    rw [e1, e2]
    simp only [List.length_append]
    omega

set_option maxRecDepth 100000 in
set_option maxHeartbeats 8000000 in
theorem paintEscape_any (A : Option Addr) (n c : Nat) (l : List Piece) (x : Int) (w : World) (h : PiecesAt w w.heap.size A n c l) (ht : TabW w) :
    Calls Tryd.prog 3 #[.slice A n c, .int .i64 x] w fun e w' => e = .returned (.bool true) ∧ Below w.heap.size w w' := by
  have HT := Lib.hid ht
  clear ht
  cases hf : fitPiecesB l with
  | false =>
    have HF := Lib.hid hf
    clear hf
    go_enter Tryd.func3, Tryd.ntmps3
    go_wp2_with fail
    refine (fitPieces_any _ _ _ l _ h).mono ?_
    rintro e w1 ⟨rfl, hb1⟩
    rw [HF.out]
    go_wp2
    go_ret
    exact ⟨rfl, hb1⟩
  | true =>
  have HF := Lib.hid hf
  clear hf
  cases hg : goodPiecesB true l with
  | false =>
    have HG := Lib.hid hg
    clear hg
    go_enter Tryd.func3, Tryd.ntmps3
    go_wp2_with fail
    refine (fitPieces_any _ _ _ l _ h).mono ?_
    rintro e w1 ⟨rfl, hb1⟩
    rw [HF.out]
    have h1 := (h.below hb1).more hb1.size
    have ht1 := HT.out.below hb1
    go_wp2_with fail
    refine (ptCells_any _ _ _ l _ h1 ht1).mono ?_
    rintro e w2 ⟨htold, hb2⟩
    unfold CellsTold at htold
    rw [if_neg (by rw [HG.out]; simp)] at htold
    subst htold
    have hb12 := hb1.trans (hb2.mono hb1.size)
    go_wp2
    go_ret
    exact ⟨rfl, hb12⟩
  | true =>
  have HG := Lib.hid hg
  have hgs := good_sizes hg
  have HGS := Lib.hid hgs
  obtain ⟨s, hs⟩ : ∃ s : ByteArray, s = ⟨(writtenL l).toArray⟩ := ⟨_, rfl⟩
  have hsz : s.size ≤ 24000 := by rw [hs, mk_size]; have := writtenL_len hgs.2; have := hgs.1; omega
  have HS := Lib.hid hs
  clear hgs hs
  cases hr : (readText s).isSome with
  | false =>
    have HR := Lib.hid hr
    clear hg hr
    go_enter Tryd.func3, Tryd.ntmps3
    go_wp2_with fail
    refine (fitPieces_any _ _ _ l _ h).mono ?_
    rintro e w1 ⟨rfl, hb1⟩
    rw [HF.out]
    have h1 := (h.below hb1).more hb1.size
    have ht1 := HT.out.below hb1
    go_wp2_with fail
    refine (ptCells_any _ _ _ l _ h1 ht1).mono ?_
    rintro e w2 ⟨htold, hb2⟩
    unfold CellsTold at htold
    rw [if_pos HG.out, ← HS.out, HR.out] at htold
    obtain ⟨v2, v3, rfl⟩ := htold
    have hb12 := hb1.trans (hb2.mono hb1.size)
    go_wp2
    go_ret
    exact ⟨rfl, hb12⟩
  | true =>
  have HR := Lib.hid hr
  clear hr
  cases hfl : filledB l with
  | false =>
    have HFL := Lib.hid hfl
    clear hg hfl
    go_enter Tryd.func3, Tryd.ntmps3
    go_wp2_with fail
    refine (fitPieces_any _ _ _ l _ h).mono ?_
    rintro e w1 ⟨rfl, hb1⟩
    rw [HF.out]
    have h1 := (h.below hb1).more hb1.size
    have ht1 := HT.out.below hb1
    go_wp2_with fail
    refine (ptCells_any _ _ _ l _ h1 ht1).mono ?_
    rintro e w2 ⟨htold, hb2⟩
    unfold CellsTold at htold
    rw [if_pos HG.out, ← HS.out, HR.out] at htold
    obtain ⟨v2, v3, rfl⟩ := htold
    have h2 := (h1.below hb2).more hb2.size
    have hb12 := hb1.trans (hb2.mono hb1.size)
    clear h1 ht1 hb1 hb2
    go_wp2_with fail
    refine (filled_any _ _ _ l _ h2).mono ?_
    rintro e w3 ⟨rfl, hb3⟩
    rw [HFL.out]
    have hb13 := hb12.trans (hb3.mono hb12.size)
    go_wp2
    go_ret
    exact ⟨rfl, hb13⟩
  | true =>
  have HFL := Lib.hid hfl
  cases hat : attrB x with
  | false =>
    have HAT := Lib.hid hat
    clear hg hfl hat
    go_enter Tryd.func3, Tryd.ntmps3
    go_wp2_with fail
    refine (fitPieces_any _ _ _ l _ h).mono ?_
    rintro e w1 ⟨rfl, hb1⟩
    rw [HF.out]
    have h1 := (h.below hb1).more hb1.size
    have ht1 := HT.out.below hb1
    go_wp2_with fail
    refine (ptCells_any _ _ _ l _ h1 ht1).mono ?_
    rintro e w2 ⟨htold, hb2⟩
    unfold CellsTold at htold
    rw [if_pos HG.out, ← HS.out, HR.out] at htold
    obtain ⟨v2, v3, rfl⟩ := htold
    have h2 := (h1.below hb2).more hb2.size
    have hb12 := hb1.trans (hb2.mono hb1.size)
    clear h1 ht1 hb1 hb2
    go_wp2_with fail
    refine (filled_any _ _ _ l _ h2).mono ?_
    rintro e w3 ⟨rfl, hb3⟩
    rw [HFL.out]
    have hb13 := hb12.trans (hb3.mono hb12.size)
    go_wp2_with fail
    refine (attr_any x _).mono ?_
    rintro e w4 ⟨rfl, rfl⟩
    rw [HAT.out]
    go_wp2
    go_ret
    exact ⟨rfl, hb13⟩
  | true =>
  have hxr := attr_range hat
  have hgp := good_pieces hg hfl
  have HAT := Lib.hid hat
  have hel := esc_len hxr hgp HGS.out.1 HGS.out.2
  have HREAD := Lib.hid (escaped_read hxr l hgp)
  obtain ⟨q, hq⟩ : ∃ q : ByteArray, q = ⟨(seqL [x]).toArray⟩ := ⟨_, rfl⟩
  have hqz : q.size ≤ 8 := by rw [hq, mk_size]; exact seq_size [x] (by intro y hy; simp at hy; subst hy; omega)
  obtain ⟨o, ho⟩ : ∃ o : ByteArray, o = ⟨(escL (bl s) (bl q)).toArray⟩ := ⟨_, rfl⟩
  have hbs : bl s = writtenL l := by rw [HS.out]
  have hbq : bl q = seqL [x] := by rw [hq]
  have hoz : o.size ≤ 60000 := by rw [ho, mk_size, hbs, hbq]; exact hel.2
  have he2 : (esc2 (bl s) (bl q)).length ≤ 70368744177664 := by rw [hbs, hbq]; have := hel.1; omega
  have heL : (escL (bl s) (bl q)).length ≤ 70368744177664 := by rw [hbs, hbq]; have := hel.2; omega
  have HQ := Lib.hid hq
  have HO := Lib.hid ho
  have HRO := Lib.hid (show readText o = some (escCells x l (escFirst x l), []) by rw [HO.out, hbs, hbq]; exact HREAD.out)
  have HE2 := Lib.hid he2
  have HEL := Lib.hid heL
  clear hg hfl hat hgp hel hbs hbq hq ho he2 heL HREAD
  go_enter Tryd.func3, Tryd.ntmps3
  go_wp2_with fail
  refine (fitPieces_any _ _ _ l _ h).mono ?_
  rintro e w1 ⟨rfl, hb1⟩
  rw [HF.out]
  have h1 := (h.below hb1).more hb1.size
  have ht1 := HT.out.below hb1
  go_wp2_with fail
  refine (ptCells_any _ _ _ l _ h1 ht1).mono ?_
  rintro e w2 ⟨htold, hb2⟩
  unfold CellsTold at htold
  rw [if_pos HG.out, ← HS.out, HR.out] at htold
  obtain ⟨v2, v3, rfl⟩ := htold
  have h2 := (h1.below hb2).more hb2.size
  have hb12 := hb1.trans (hb2.mono hb1.size)
  clear h1 ht1 hb1 hb2
  go_wp2_with fail
  refine (filled_any _ _ _ l _ h2).mono ?_
  rintro e w3 ⟨rfl, hb3⟩
  rw [HFL.out]
  have hb13 := hb12.trans (hb3.mono hb12.size)
  have h3 := (h2.below hb3).more hb3.size
  clear h2 hb12 hb3
  go_wp2_with fail
  refine (attr_any x _).mono ?_
  rintro e w4 ⟨rfl, rfl⟩
  rw [HAT.out]
  have hb14 := hb13.alloc hb13.size (.cells #[.int .i64 x] 3)
  have hone := (OwnInts.one w3 x).rd
  obtain ⟨A1, c1, hv1, hi1⟩ := hone
  injection hv1 with e1 e2 e3
  have h4 := (h3.below ((Below.refl _ w3).alloc (Nat.le_refl _) (.cells #[.int .i64 x] 3))).more (by simp : w3.heap.size ≤ (w3.alloc (.cells #[.int .i64 x] 3)).heap.size)
  have ht4 := HT.out.below hb14
  subst e1 e3
  clear h3 hb13 e2
  go_wp2_with fail
  refine (sequence_any _ _ _ [x] _ hi1 (by simp) (by intro y hy; simp at hy; subst hy; omega) ht4).mono ?_
  rintro e w5 ⟨rfl, hb5⟩
  rw [← HQ.out]
  have hb15 := hb14.trans (hb5.mono hb14.size)
  have h5 := (h4.below hb5).more hb5.size
  clear h4 ht4 hi1 hb14 hb5
  go_wp2_with fail
  refine (textEscape_any s q _ (by omega) (by omega) HE2.out HEL.out).mono ?_
  rintro e w6 ⟨rfl, hb6⟩
  rw [← HO.out]
  have hb16 := hb15.trans (hb6.mono hb15.size)
  have h6 := (h5.below hb6).more hb6.size
  clear h5 hb15 hb6
  go_wp2_with fail
  refine (escaped_any _ _ _ l x _ h6 HGS.out.1 (fun s hs => ⟨(HGS.out.2 s hs).1, (HGS.out.2 s hs).2.1⟩)).mono ?_
  rintro e w7 ⟨A', n', c', rfl, hca, hb7⟩
  have hb17 := hb16.trans (hb7.mono hb16.size)
  clear h6 hb16 hb7
  go_wp2_with fail
  refine (is_true o _ _ _ _ _ _ _ _ [] [] _ (by omega) hca (Rd.nil _ _ _) HRO.out (sameB_self _) rfl).mono ?_
  rintro e w8 ⟨rfl, hb8⟩
  have hb18 := hb17.trans (hb8.mono hb17.size)
  have HB2 := Lib.hid (show (⟨(escL (bl ⟨#[97]⟩) (bl ⟨#[27, 91, 49, 109]⟩)).toArray⟩ : ByteArray) = ⟨#[27, 91, 49, 109, 97, 27, 91, 48, 109]⟩ by
    rw [show escL (bl ⟨#[97]⟩) (bl ⟨#[27, 91, 49, 109]⟩) = [27, 91, 49, 109, 97, 27, 91, 48, 109] from esc_bold.2])
  clear hca hb17 hb8
  go_wp2_with fail
  refine (textEscape_any ⟨#[97]⟩ ⟨#[27, 91, 49, 109]⟩ _ (by decide) (by decide) (by rw [show esc2 (bl ⟨#[97]⟩) (bl ⟨#[27, 91, 49, 109]⟩) = _ from esc_bold.1]; decide) (by rw [show escL (bl ⟨#[97]⟩) (bl ⟨#[27, 91, 49, 109]⟩) = _ from esc_bold.2]; decide)).mono ?_
  rintro e w9 ⟨rfl, hb9⟩
  rw [HB2.out]
  have hb19 := hb18.trans (hb9.mono hb18.size)
  go_wp2
  go_ret
  exact ⟨rfl, hb19⟩
end Go.Proofs.YtaebdgjebdjlaaaDoor
