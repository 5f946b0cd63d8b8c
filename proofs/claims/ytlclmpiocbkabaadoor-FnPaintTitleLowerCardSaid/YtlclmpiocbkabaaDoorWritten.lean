/- Walks of spec.TxWritten, laws.ptCells, impl.TextEscape: what they make. Condition: the pieces are good; the table of powers of ten reads as it was laid. -/
import Derived.Test.YtlclmpiocbkabaaDoorSeq
import Derived.Test.YtlclmpiocbkabaaDoorEscPlain
import Derived.Test.YtlclmpiocbkabaaDoorIs
import Derived.Deep.RegionHeld3
namespace Go.Proofs.YtlclmpiocbkabaaDoor
open Go.RowKit

theorem seq_size (l : List Int) (hc : ∀ x ∈ l, 0 ≤ x ∧ x < 1000) : (seqL l).length ≤ 3 + 5 * l.length := by
  unfold seqL
  split
  · simp
  · have key : ∀ l : List Int, (∀ x ∈ l, 0 ≤ x ∧ x < 1000) → (Lib.joinTail [59] (l.map codeL)).length ≤ 5 * l.length := by
      intro l
      induction l with
      | nil => intro _; simp [Lib.joinTail]
      | cons x l ih =>
        intro h
        have h1 := ih fun y hy => h y (by simp [hy])
        have h2 := h x (by simp)
        have h3 : (codeL x).length ≤ 4 := decL_len x.toNat (by omega)
        simp only [Lib.joinTail, List.map_cons, List.flatten_cons, List.length_append, List.length_cons, List.length_nil] at *
        omega
    cases l with
    | nil => simp at *
    | cons x r =>
      have h1 := key r fun y hy => hc y (by simp [hy])
      have h2 := hc x (by simp)
      have h3 : (codeL x).length ≤ 4 := decL_len x.toNat (by omega)
      rw [List.map_cons, Lib.join_cons]
      simp only [List.length_append, List.length_cons, List.length_nil]
      omega

theorem writtenL_step {l : List Piece} {k : Nat} {s : Piece} (h : l[k]? = some s) : writtenL (l.take (k + 1)) = writtenL (l.take k) ++ (seqL s.codes ++ bl s.text) := by
  unfold writtenL; rw [take_step h, List.flatMap_append]; simp
/-- Sizes of good pieces. -/
theorem good_sizes {b : Bool} {l : List Piece} (h : goodPiecesB b l = true) : l.length ≤ 40 ∧ ∀ s ∈ l, s.text.size ≤ 500 ∧ s.codes.length ≤ 4 ∧ ∀ x ∈ s.codes, 0 ≤ x ∧ x < 1000 := by
  unfold goodPiecesB at h
  simp only [Bool.and_eq_true, decide_eq_true_eq] at h
  refine ⟨h.2, fun s hs => ?_⟩
  have := List.all_eq_true.1 h.1 s hs
  unfold goodB at this
  simp only [Bool.and_eq_true, decide_eq_true_eq] at this
  refine ⟨this.2.1, this.2.2.1, fun x hx => ?_⟩
  have hx2 := List.all_eq_true.1 this.2.2.2 x hx
  unfold codeB at hx2
  simp only [Bool.or_eq_true, Bool.and_eq_true, decide_eq_true_eq] at hx2
  rcases hx2 with h | h
  · have := attr_range h; omega
  · omega
theorem good_pieces {l : List Piece} (h : goodPiecesB true l = true) (hf : filledB l = true) : ∀ p ∈ l, GoodP p := by
  intro p hp
  have hfp := List.all_eq_true.1 hf p hp
  unfold goodPiecesB at h
  simp only [Bool.and_eq_true, decide_eq_true_eq] at h
  have := List.all_eq_true.1 h.1 p hp
  unfold goodB at this
  simp only [Bool.and_eq_true, decide_eq_true_eq] at this
  refine ⟨?_, simple_no27 this.1, ?_, simple_runes this.1⟩
  · by_cases h0 : p.codes = [0]
    · exact Or.inl h0
    · right
      intro c hc
      have hx := List.all_eq_true.1 this.2.2.2 c hc
      unfold codeB at hx
      simp only [Bool.or_eq_true, Bool.and_eq_true, decide_eq_true_eq] at hx
      rcases hx with hx | ⟨hz, hl⟩
      · exact attr_range hx
      · exfalso
        apply h0
        match hpc : p.codes, hc, hl with
        | [x], hc, _ => simp at hc; rw [← hc, hz]
        | [], hc, _ => simp at hc
        | _ :: _ :: _, _, hl => simp at hl
  · intro e
    rw [Lib.toList_data] at hfp
    rw [show p.text.data.toList = [] from e] at hfp
    simp at hfp

set_option maxRecDepth 100000 in
set_option maxHeartbeats 4000000 in
theorem written_any (A : Option Addr) (n c : Nat) (l : List Piece) (w : World) (h : PiecesAt w w.heap.size A n c l) (hl : l.length ≤ 40) (hg : ∀ s ∈ l, s.text.size ≤ 500 ∧ s.codes.length ≤ 4 ∧ ∀ x ∈ s.codes, 0 ≤ x ∧ x < 1000) (ht : TabW w) :
    Calls Tryd.prog 20 #[.slice A n c] w fun e w' => e = .returned (.string ⟨(writtenL l).toArray⟩) ∧ Below w.heap.size w w' := by
  have HL := Lib.hid h.len
  have HG := Lib.hid hg
  have HT := Lib.hid ht
  have hn : n ≤ 40 := by rw [← h.len]; exact hl
  clear hg ht hl
  go_enter Tryd.func20, Tryd.ntmps20
  go_wp2
  go_loopw [3, 8] (fun v3 v8 wr => ∃ (k : Nat) (s : ByteArray), k ≤ n ∧ v8 = .int .i64 k ∧ v3 = .string s ∧ Hid (bl s = writtenL (l.take k)) ∧ s.size ≤ 600 * k ∧ Below w.heap.size w wr) (fun _ v8 _ => n - (intOf v8).toNat)
  case atStart => exact ⟨0, ⟨#[]⟩, Nat.zero_le _, rfl, rfl, Lib.hid rfl, Nat.zero_le _, Below.refl _ _⟩
  case round =>
    obtain ⟨k, s, hk, rfl, rfl, HS, hz, hbw⟩ := hrel
    have hsz := hbw.size
    by_cases hlt : k < n
    · obtain ⟨ad, p, A', n', c', rfl, _, hy, hc0, hc1, hst⟩ := (h.below hbw).at_ hlt
      have hk1 : (k : Int) < (n : Int) := by omega
      have HY := Lib.hid hy
      have hgp := HG.out p (List.mem_of_getElem? hy)
      have hb1 := (Below.refl wr.heap.size wr).alloc (Nat.le_refl _) (.cells #[.slice A' n' c', .string p.text] 47)
      have hst2 := ((hst.more hsz).below hb1).more hb1.size
      have hbwA := hbw.trans (hb1.mono hsz)
      have htw := HT.out.below hbwA
      have hn' : n' ≤ 4 := by rw [← hst.len]; exact hgp.2.1
      have hpt := hgp.1
      have hcodes := Lib.hid hgp.2.2
      have hsq : (⟨(seqL p.codes).toArray⟩ : ByteArray).size ≤ 23 := by rw [mk_size]; have := seq_size p.codes hgp.2.2; have := hgp.2.1; omega
      have hq0 := box_cell2 wr #[.slice A' n' c', .string p.text] 47 0
      have hq1 := box_cell2 wr #[.slice A' n' c', .string p.text] 47 1
      obtain ⟨sq, hsqe⟩ : ∃ sq : ByteArray, sq = ⟨(seqL p.codes).toArray⟩ := ⟨_, rfl⟩
      rw [← hsqe] at hsq
      have HSQ := Lib.hid hsqe
      have HST := Lib.hid (show bl (s ++ (sq ++ p.text)) = writtenL (l.take (k + 1)) by
        rw [writtenL_step HY.out, bl_app, bl_app, HS.out, HSQ.out, bl_mk])
      have hc1 : ¬ (9223372036854775807 < sq.size + p.text.size) := by omega
      have hc3 : ¬ (9223372036854775807 < s.size + (sq.size + p.text.size)) := by omega
      have hc2 : ¬ (9223372036854775807 < s.size + (sq ++ p.text).size) := by rw [size_app]; omega
      clear hy hst hgp hsqe
      go_wp2_with fail
      go_region_held3 (fun w' => w'.cell? ⟨wr.heap.size, 0, none⟩ = some (.slice (A') n' c') ∧ w'.cell? ⟨wr.heap.size, 1, none⟩ = some (.string p.text) ∧ Below wr.heap.size wr w') (first | exact ⟨hq0, hq1, hb1.drew⟩ | exact ⟨hq02, hq12, hb2⟩)
        (first | (go_at_call 37; refine (sequence_any A' n' c' p.codes _ hst2.drew (by omega) hcodes.out htw).mono ?_; rintro e w4 ⟨rfl, hb4⟩; rw [← HSQ.out]; have hq02 := (hb4.cell (p := ⟨wr.heap.size, 0, none⟩) (by simp)).trans hq0; have hq12 := (hb4.cell (p := ⟨wr.heap.size, 1, none⟩) (by simp)).trans hq1; have hb2 := hb1.drew.trans (hb4.mono hb1.size)))
      have hbw2 := hbw.trans (hb2.mono hsz)
      clear hb1 hbw hb2 hbwA hst2 hq0 hq1 hq02 hq12 hb4
      go_wp2
      go_roundw
      case rel => exact ⟨k + 1, s ++ (sq ++ p.text), by omega, by go_num, rfl, HST, by rw [size_app, size_app]; omega, hbw2⟩
      case measure => simp [intOf]; omega
    · have HF := Lib.hid (show s = ⟨(writtenL l).toArray⟩ by
        apply bl_ext; rw [HS.out, bl_mk, List.take_of_length_le (by rw [HL.out]; omega)])
      go_wp2
      go_ret
      exact ⟨ret_str HF.out, hbw⟩
end Go.Proofs.YtlclmpiocbkabaaDoor
