/- Walk of the parser's Sequence. Conditions: as it says. -/
import Derived.Test.YtlclmpiocbkabaaDoorParser7
import Derived.Test.YtlclmpiocbkabaaDoorItoaBig
import Derived.Test.YtlclmpiocbkabaaDoorBuild
import Derived.Lib.OthersKept
namespace Go.Proofs.YtlclmpiocbkabaaDoor
open Go.RowKit
set_option linter.unusedVariables false
set_option linter.unusedSimpArgs false

theorem PAt.below {w w' : World} {B p : Nat} {s : PS} (h : PAt w B p s) (hb : Below w.heap.size w w') : PAt w' B p s := by
  obtain ⟨vm, vb, h1, h2, h3⟩ := h.ex
  refine ⟨h.base, vm, vb, (hb.block p h.lt).trans h1, ?_, own_below h3 hb (Nat.le_refl _)⟩
  rcases h2 with h2 | ⟨b, e, hB, hs⟩
  · exact Or.inl h2
  · exact Or.inr ⟨b, e, hB, hs.below hb hs.lt⟩
/-- A row of other cells behind a write to the builder. -/
theorem row_others {w w' : World} {B e e' size n b : Nat} {v : Value} {xs : List Value} (h : w.ownsRow B e size v n xs) (ho : Lib.OthersKept e' (some b) w w') (hne : e ≠ e') (hb : some b ≠ v.ownBlock) : w'.ownsRow B e size v n xs := by
  obtain ⟨h1, h2⟩ := h
  refine ⟨h1, ?_⟩
  rcases h2 with h2 | ⟨g, cap, cur, rfl, hg, hh, r⟩
  · exact Or.inl h2
  · refine Or.inr ⟨g, cap, cur, rfl, hg, ho g _ hh ?_ ?_, r⟩
    · intro e2; exact hb (by simpa [Value.ownBlock] using e2.symm)
    · intro c fz e2; injection e2 with _ e2; exact hne e2

/-- One code, as it is written into a sequence. -/
def seqOneB (c : Int) : ByteArray := if 1000 ≤ c ∧ c ≤ 1255 then itoaB 38 ++ ⟨#[59]⟩ ++ itoaB 5 ++ ⟨#[59]⟩ ++ itoaB (c - 1000) else if 2000 ≤ c ∧ c ≤ 2255 then itoaB 48 ++ ⟨#[59]⟩ ++ itoaB 5 ++ ⟨#[59]⟩ ++ itoaB (c - 2000) else itoaB c
def seqOne (c : Int) : List UInt8 := bl (seqOneB c)
def seqCat : Nat → List Int → List UInt8
  | _, [] => []
  | k, c :: r => (if 0 < k then [59] else []) ++ seqOne c ++ seqCat (k + 1) r
def seqP (l : List Int) : List UInt8 := if l = [] then [] else [27, 91] ++ seqCat 0 l ++ [109]
theorem seqCat_snoc (c : Int) : ∀ (l : List Int) (k : Nat), seqCat k (l ++ [c]) = seqCat k l ++ ((if 0 < k + l.length then [59] else []) ++ seqOne c)
  | [], k => by simp [seqCat]
  | x :: r, k => by
    rw [List.cons_append, seqCat, seqCat, seqCat_snoc c r (k + 1)]
    simp [Nat.add_assoc, Nat.add_comm 1]
theorem seqOne_len {c : Int} (h : In64 c) : (seqOneB c).size ≤ 100 := by
  have h38 := itoa_size (x := 38) (by decide)
  have h48 := itoa_size (x := 48) (by decide)
  have h5 := itoa_size (x := 5) (by decide)
  have e1 : (⟨#[59]⟩ : ByteArray).size = 1 := rfl
  unfold seqOneB
  split
  · have := itoa_size (x := c - 1000) (by unfold In64 at *; omega)
    simp only [ByteArray.size_append, e1]
    omega
  · split
    · have := itoa_size (x := c - 2000) (by unfold In64 at *; omega)
      simp only [ByteArray.size_append, e1]
      omega
    · have := itoa_size h
      omega

set_option maxRecDepth 100000 in
set_option maxHeartbeats 3000000 in
theorem pseq_any (B p : Nat) (s : PS) (w : World) (h : PAt w B p s) (hr : Rising s.codes) (hl : s.codes.length ≤ 100000) (h64 : ∀ c ∈ s.codes, In64 c) :
    Calls Tryd.prog 32 #[.pointer (some ⟨p, 0, none⟩)] w fun e w' => e = .returned (.string ⟨(seqP s.codes).toArray⟩) ∧ Below w.heap.size w w' := by
  obtain ⟨codes, hcd⟩ : ∃ codes, codes = s.codes := ⟨_, rfl⟩
  have HR := Lib.hid hr
  have hp := h.lt
  have hb0 := (Below.refl w.heap.size w).alloc (Nat.le_refl _) (.cells #[.pointer none, .slice none 0 0] 82)
  have hbl0 := Bld.fresh w
  have hP0 := h.below hb0
  have hsz0 : (w.alloc (.cells #[.pointer none, .slice none 0 0] 82)).heap.size = w.heap.size + 1 := by simp
  obtain ⟨w0, hw0⟩ : ∃ w0, w0 = w.alloc (.cells #[.pointer none, .slice none 0 0] 82) := ⟨_, rfl⟩
  have hW0 := Lib.hid hw0
  rw [← hw0] at hb0 hbl0 hP0 hsz0
  have HP := Lib.hid h
  clear hw0 h hr
  by_cases h0 : s.codes = []
  · have HD := Lib.hid (show decide (0 < s.codes.length) = false by rw [h0]; rfl)
    have HS := Lib.hid (show seqP s.codes = [] by unfold seqP; rw [if_pos h0])
    clear h0 hl h64
    go_enter Tryd.func32, Tryd.ntmps32
    go_wp2_with fail
    rw [← hW0.out]
    refine (isOpen_any B p s _ hP0).mono ?_
    rintro e w1 ⟨rfl, rfl⟩
    rw [HD.out]
    go_wp2_with fail
    refine (bld_string w.heap.size w.heap.size [] _ hbl0 (by omega)).mono ?_
    rintro e w2 ⟨rfl, _, hb2, _⟩
    have hbZ := hb0.trans hb2
    go_wp2
    go_ret
    exact ⟨ret_str (by rw [HS.out]), hbZ⟩
  · have hpos : 0 < s.codes.length := List.length_pos_iff.2 h0
    have HD := Lib.hid (show decide (0 < s.codes.length) = true from decide_eq_true hpos)
    have HS := Lib.hid (show seqP s.codes = [27, 91] ++ seqCat 0 s.codes ++ [109] by unfold seqP; rw [if_neg h0])
    have H64 := Lib.hid h64
    clear h0 h64
    go_enter Tryd.func32, Tryd.ntmps32
    go_wp2_with fail
    rw [← hW0.out]
    refine (isOpen_any B p s _ hP0).mono ?_
    rintro e w1 ⟨rfl, rfl⟩
    rw [HD.out]
    go_wp2_with fail
    refine (bld_write w.heap.size w.heap.size [] ⟨#[27, 91]⟩ _ hbl0 (by decide) (by omega)).mono ?_
    rintro e w2 ⟨rfl, hbl2, hb2, _⟩
    have hb02 := hb0.trans hb2
    have hP2 := HP.out.below hb02
    have hlt2 := hbl2.lt.2
    have HL := Lib.hid hl
    clear hP0 hbl0 hb2 hb0 hsz0
    go_wp2_with fail
    refine (pcodes_any B p s _ hP2 HR.out (by have := HL.out; omega)).mono ?_
    rintro e w3 ⟨v3, rfl, hrow3, hb3⟩
    have hbl3 := hbl2.below hb3
    have hb03 := hb02.trans (hb3.mono hb02.size)
    obtain ⟨N, hN⟩ : ∃ N, N = s.codes.length := ⟨_, rfl⟩
    rw [← hN] at hrow3 hpos
    have HN := Lib.hid hN
    have hN1 : N ≤ 100000 := by rw [hN]; exact hl
    obtain ⟨g, cap, rfl⟩ : ∃ g cap, v3 = .slice (some ⟨g, 0, none⟩) N cap := by
      rcases hrow3.2 with ⟨_, h0⟩ | ⟨g, cap, cur, hv, _⟩
      · omega
      · exact ⟨g, cap, hv⟩
    have hgb : w2.heap.size ≤ g := (World.ownsRow.lt hrow3 g rfl).1
    obtain ⟨ad, had⟩ : ∃ ad : Addr, ad = ⟨g, 0, none⟩ := ⟨_, rfl⟩
    rw [← had] at hrow3 ⊢
    have hne : some w.heap.size ≠ (Value.slice (some ad) N cap).ownBlock := by
      rw [had]
      intro e
      have e2 : some w.heap.size = some g := e
      injection e2 with e2
      omega
    have HNE := Lib.hid hne
    clear hne had hgb
    clear hP2 hbl2 hb3 hb02 hN hl
    go_wp2_with fail
    go_loopw [17] (fun v17 wr => ∃ (k : Nat) (acc : List UInt8), k ≤ N ∧ v17 = .int .i64 k ∧ Bld wr w.heap.size w.heap.size acc ∧ wr.ownsRow w2.heap.size 3 1 (.slice (some ad) N cap) N (s.codes.map (Value.int .i64)) ∧ Below w.heap.size w wr ∧ Hid (acc = [27, 91] ++ seqCat 0 (s.codes.take k) ∧ acc.length ≤ 2 + 101 * k)) (fun v17 _ => N - (intOf v17).toNat)
    case atStart => exact ⟨0, _, Nat.zero_le _, rfl, hbl3, hrow3, hb03, Lib.hid ⟨by simp [seqCat, bl], by simp [bl]⟩⟩
    case round =>
      obtain ⟨k, acc, hk, rfl, hbl, hrow, hbw, HZ⟩ := hrel
      clear hbl3 hrow3 hb03
      have hszw := hbw.size
      by_cases hkn : k < N
      · obtain ⟨c, hc, hcell⟩ : ∃ c, s.codes[k]? = some c ∧ wr.cell? (ad.add k) = some (.int .i64 c) := by
          obtain ⟨A', c', e, hrd⟩ := own_rd hrow
          injection e with e1 e2 e3
          subst e1
          obtain ⟨ad', y, e4, _, hy, hcy⟩ := IntsAt.at_ (l := s.codes) hrd hkn
          injection e4 with e4
          subst e4
          exact ⟨y, hy, hcy⟩
        have hc64 := H64.out c (List.mem_of_getElem? hc)
        have HC := Lib.hid hc
        have hk1 : (k : Int) < (N : Int) := by omega
        clear hc
        go_upto_if 23 with (fail)
        go_cut [24] (fun v24 wx => (∃ acc2 : List UInt8, Bld wx w.heap.size w.heap.size acc2 ∧ Hid (acc2 = [27, 91] ++ seqCat 0 (s.codes.take k) ++ (if 0 < k then [59] else []) ∧ acc2.length ≤ 3 + 101 * k)) ∧ wx.ownsRow w2.heap.size 3 1 (.slice (some ad) N cap) N (s.codes.map (Value.int .i64)) ∧ Below w.heap.size w wx)
        case first =>
          by_cases hk0 : 0 < k
          · have hk2 : (0 : Int) < (k : Int) := by omega
            have HK := Lib.hid (show (if 0 < k then ([59] : List UInt8) else []) = [59] from if_pos hk0)
            clear hk0
            go_wp2_with fail
            refine (bld_rune w.heap.size w.heap.size _ 59 (by decide) (by decide) _ hbl (by have := HZ.out.2; omega) hszw).mono ?_
            rintro e w5 ⟨rfl, hbl5, hb5, ho5⟩
            have hrow5 := row_others hrow ho5 (by decide) HNE.out
            have hbw5 := hbw.trans hb5
            go_wp2_with fail
            go_meet
            exact ⟨⟨_, hbl5, Lib.hid ⟨by rw [HK.out, HZ.out.1]; rfl, by have := HZ.out.2; rw [show Lib.encodeRune 59 = [59] from rfl, List.length_append]; simp only [List.length_cons, List.length_nil]; omega⟩⟩, hrow5, hbw5⟩
          · have hk2 : ¬ (0 : Int) < (k : Int) := by omega
            have HK := Lib.hid (show (if 0 < k then ([59] : List UInt8) else []) = [] from if_neg hk0)
            clear hk0
            go_wp2_with fail
            go_meet
            exact ⟨⟨_, hbl, Lib.hid ⟨by rw [HK.out, List.append_nil, HZ.out.1], by have := HZ.out.2; omega⟩⟩, hrow, hbw⟩
        case rest =>
          obtain ⟨⟨acc2, hblc, HA2⟩, hrowc, hbc⟩ := hcut
          clear hbl hrow hbw hszw hcell
          have HON := Lib.hid (seqOne_len hc64)
          have HSN := Lib.hid (show acc2 ++ bl (seqOneB c) = [27, 91] ++ seqCat 0 (s.codes.take (k + 1)) ∧ (acc2 ++ bl (seqOneB c)).length ≤ 2 + 101 * (k + 1) by
            constructor
            · rw [HA2.out.1, take_step HC.out, seqCat_snoc, List.length_take, Nat.min_eq_left (by have := HN.out; omega), Nat.zero_add]
              simp only [List.append_assoc]
              rfl
            · rw [List.length_append, bl_size]
              have := HA2.out.2
              have := HON.out
              omega)
          have hc64' := hc64
          unfold In64 at hc64'
          by_cases hA : 1000 ≤ c ∧ c ≤ 1255
          · obtain ⟨h1, h2⟩ := hA
            have hw1 : wrap64 (c - 1000) = c - 1000 := IntWalk.wrap64_in _ ⟨by omega, by omega⟩
            have hcx : In64 (c - 1000) := by unfold In64; omega
            have HO := Lib.hid (show seqOneB c = itoaB 38 ++ ⟨#[59]⟩ ++ itoaB 5 ++ ⟨#[59]⟩ ++ itoaB (c - 1000) by unfold seqOneB; rw [if_pos ⟨h1, h2⟩])
            have s1 := itoa_size (x := 38) (by decide)
            have s2 := itoa_size (x := 5) (by decide)
            have s3 := itoa_size hcx
            generalize hq1 : itoaB 38 = q1 at s1 HO
            generalize hq2 : itoaB 5 = q2 at s2 HO
            generalize hq3 : itoaB (c - 1000) = q3 at s3 HO
            have HQ1 := Lib.hid hq1
            have HQ2 := Lib.hid hq2
            have HQ3 := Lib.hid hq3
            have HCX := Lib.hid hcx
            have a1 : ¬ 9223372036854775807 < q1.size + 1 := by omega
            have a2 : ¬ 9223372036854775807 < q1.size + 1 + q2.size := by omega
            have a3 : ¬ 9223372036854775807 < q1.size + 1 + q2.size + 1 := by omega
            have a4 : ¬ 9223372036854775807 < q1.size + 1 + q2.size + 1 + q3.size := by omega
            clear hq1 hq2 hq3 hcx s1 s2 s3
            go_wp2_with fail
            refine (itoaW_any 38 _ (by decide)).mono ?_
            rintro e wa1 ⟨rfl, hba1⟩
            rw [HQ1.out]
            have hbb1 := hba1
            go_wp2_with fail
            refine (itoaW_any 5 _ (by decide)).mono ?_
            rintro e wa2 ⟨rfl, hba2⟩
            rw [HQ2.out]
            have hbb2 := hbb1.trans (hba2.mono hbb1.size)
            go_wp2_with fail
            refine (itoaW_any (c - 1000) _ HCX.out).mono ?_
            rintro e wa3 ⟨rfl, hba3⟩
            rw [HQ3.out]
            have hbb3 := hbb2.trans (hba3.mono hbb2.size)
            go_wp2_with fail
            have hbl4 := hblc.below hbb3
            have hrow4 := own_below hrowc hbb3 (Nat.le_refl _)
            have hbw4 := hbc.trans (hbb3.mono hbc.size)
            refine (bld_write w.heap.size w.heap.size _ (q1 ++ (⟨#[59]⟩ : ByteArray) ++ q2 ++ (⟨#[59]⟩ : ByteArray) ++ q3) _ hbl4 (by rw [← HO.out]; have := HA2.out.2; have := HON.out; omega) hbw4.size).mono ?_
            rintro e w5 ⟨rfl, hbl5, hb5, ho5⟩
            have hrow5 := row_others hrow4 ho5 (by decide) HNE.out
            have hbw5 := hbw4.trans hb5
            rw [← HO.out] at hbl5
            clear hbl4 hrow4 hbw4 hb5 ho5 hbb1 hbb2 hbb3 hba1 hba2 hba3 hblc hrowc hbc a1 a2 a3 a4
            go_wp2
            go_roundw
            case rel =>
              exact ⟨k + 1, _, by omega, by go_num, hbl5, hrow5, hbw5, HSN⟩
            case measure => simp [intOf]; omega
          · by_cases hB : 2000 ≤ c ∧ c ≤ 2255
            · obtain ⟨h1, h2⟩ := hB
              have h3 : 1000 ≤ c := by omega
              have h4 : ¬ c ≤ 1255 := by omega
              clear hA
              have hw1 : wrap64 (c - 2000) = c - 2000 := IntWalk.wrap64_in _ ⟨by omega, by omega⟩
              have hcx : In64 (c - 2000) := by unfold In64; omega
              have HO := Lib.hid (show seqOneB c = itoaB 48 ++ ⟨#[59]⟩ ++ itoaB 5 ++ ⟨#[59]⟩ ++ itoaB (c - 2000) by unfold seqOneB; rw [if_neg (fun e => by omega), if_pos ⟨h1, h2⟩])
              have s1 := itoa_size (x := 48) (by decide)
              have s2 := itoa_size (x := 5) (by decide)
              have s3 := itoa_size hcx
              generalize hq1 : itoaB 48 = q1 at s1 HO
              generalize hq2 : itoaB 5 = q2 at s2 HO
              generalize hq3 : itoaB (c - 2000) = q3 at s3 HO
              have HQ1 := Lib.hid hq1
              have HQ2 := Lib.hid hq2
              have HQ3 := Lib.hid hq3
              have HCX := Lib.hid hcx
              have a1 : ¬ 9223372036854775807 < q1.size + 1 := by omega
              have a2 : ¬ 9223372036854775807 < q1.size + 1 + q2.size := by omega
              have a3 : ¬ 9223372036854775807 < q1.size + 1 + q2.size + 1 := by omega
              have a4 : ¬ 9223372036854775807 < q1.size + 1 + q2.size + 1 + q3.size := by omega
              clear hq1 hq2 hq3 hcx s1 s2 s3
              go_wp2_with fail
              refine (itoaW_any 48 _ (by decide)).mono ?_
              rintro e wa1 ⟨rfl, hba1⟩
              rw [HQ1.out]
              have hbb1 := hba1
              go_wp2_with fail
              refine (itoaW_any 5 _ (by decide)).mono ?_
              rintro e wa2 ⟨rfl, hba2⟩
              rw [HQ2.out]
              have hbb2 := hbb1.trans (hba2.mono hbb1.size)
              go_wp2_with fail
              refine (itoaW_any (c - 2000) _ HCX.out).mono ?_
              rintro e wa3 ⟨rfl, hba3⟩
              rw [HQ3.out]
              have hbb3 := hbb2.trans (hba3.mono hbb2.size)
              go_wp2_with fail
              have hbl4 := hblc.below hbb3
              have hrow4 := own_below hrowc hbb3 (Nat.le_refl _)
              have hbw4 := hbc.trans (hbb3.mono hbc.size)
              refine (bld_write w.heap.size w.heap.size _ (q1 ++ (⟨#[59]⟩ : ByteArray) ++ q2 ++ (⟨#[59]⟩ : ByteArray) ++ q3) _ hbl4 (by rw [← HO.out]; have := HA2.out.2; have := HON.out; omega) hbw4.size).mono ?_
              rintro e w5 ⟨rfl, hbl5, hb5, ho5⟩
              have hrow5 := row_others hrow4 ho5 (by decide) HNE.out
              have hbw5 := hbw4.trans hb5
              rw [← HO.out] at hbl5
              clear hbl4 hrow4 hbw4 hb5 ho5 hbb1 hbb2 hbb3 hba1 hba2 hba3 hblc hrowc hbc a1 a2 a3 a4
              go_wp2
              go_roundw
              case rel =>
                exact ⟨k + 1, _, by omega, by go_num, hbl5, hrow5, hbw5, HSN⟩
              case measure => simp [intOf]; omega
            · have HCX := Lib.hid hc64
              have HO := Lib.hid (show seqOneB c = itoaB c by unfold seqOneB; rw [if_neg hA, if_neg hB])
              clear hc64
              by_cases hC : 1000 ≤ c
              · by_cases hD : 2000 ≤ c
                · have g1 : ¬ c ≤ 1255 := by omega
                  have g2 : ¬ c ≤ 2255 := by omega
                  clear hA hB
                  have s3 := itoa_size HCX.out
                  generalize hq3 : itoaB c = q3 at s3 HO
                  have HQ3 := Lib.hid hq3
                  clear hq3 hc64'
                  go_wp2_with fail
                  refine (itoaW_any c _ HCX.out).mono ?_
                  rintro e wa3 ⟨rfl, hbb3⟩
                  rw [HQ3.out]
                  have hbl4 := hblc.below hbb3
                  have hrow4 := own_below hrowc hbb3 (Nat.le_refl _)
                  have hbw4 := hbc.trans (hbb3.mono hbc.size)
                  go_wp2_with fail
                  refine (bld_write w.heap.size w.heap.size _ q3 _ hbl4 (by have := HA2.out.2; omega) hbw4.size).mono ?_
                  rintro e w5 ⟨rfl, hbl5, hb5, ho5⟩
                  have hrow5 := row_others hrow4 ho5 (by decide) HNE.out
                  have hbw5 := hbw4.trans hb5
                  rw [← HO.out] at hbl5
                  clear hbl4 hrow4 hbw4 hb5 ho5 hbb3 hblc hrowc hbc
                  go_wp2
                  go_roundw
                  case rel => exact ⟨k + 1, _, by omega, by go_num, hbl5, hrow5, hbw5, HSN⟩
                  case measure => simp [intOf]; omega
                · have g1 : ¬ c ≤ 1255 := by omega
                  clear hA hB
                  have s3 := itoa_size HCX.out
                  generalize hq3 : itoaB c = q3 at s3 HO
                  have HQ3 := Lib.hid hq3
                  clear hq3 hc64'
                  go_wp2_with fail
                  refine (itoaW_any c _ HCX.out).mono ?_
                  rintro e wa3 ⟨rfl, hbb3⟩
                  rw [HQ3.out]
                  have hbl4 := hblc.below hbb3
                  have hrow4 := own_below hrowc hbb3 (Nat.le_refl _)
                  have hbw4 := hbc.trans (hbb3.mono hbc.size)
                  go_wp2_with fail
                  refine (bld_write w.heap.size w.heap.size _ q3 _ hbl4 (by have := HA2.out.2; omega) hbw4.size).mono ?_
                  rintro e w5 ⟨rfl, hbl5, hb5, ho5⟩
                  have hrow5 := row_others hrow4 ho5 (by decide) HNE.out
                  have hbw5 := hbw4.trans hb5
                  rw [← HO.out] at hbl5
                  clear hbl4 hrow4 hbw4 hb5 ho5 hbb3 hblc hrowc hbc
                  go_wp2
                  go_roundw
                  case rel => exact ⟨k + 1, _, by omega, by go_num, hbl5, hrow5, hbw5, HSN⟩
                  case measure => simp [intOf]; omega
              · have g1 : ¬ 2000 ≤ c := by omega
                clear hA hB
                have s3 := itoa_size HCX.out
                generalize hq3 : itoaB c = q3 at s3 HO
                have HQ3 := Lib.hid hq3
                clear hq3 hc64'
                go_wp2_with fail
                refine (itoaW_any c _ HCX.out).mono ?_
                rintro e wa3 ⟨rfl, hbb3⟩
                rw [HQ3.out]
                have hbl4 := hblc.below hbb3
                have hrow4 := own_below hrowc hbb3 (Nat.le_refl _)
                have hbw4 := hbc.trans (hbb3.mono hbc.size)
                go_wp2_with fail
                refine (bld_write w.heap.size w.heap.size _ q3 _ hbl4 (by have := HA2.out.2; omega) hbw4.size).mono ?_
                rintro e w5 ⟨rfl, hbl5, hb5, ho5⟩
                have hrow5 := row_others hrow4 ho5 (by decide) HNE.out
                have hbw5 := hbw4.trans hb5
                rw [← HO.out] at hbl5
                clear hbl4 hrow4 hbw4 hb5 ho5 hbb3 hblc hrowc hbc
                go_wp2
                go_roundw
                case rel => exact ⟨k + 1, _, by omega, by go_num, hbl5, hrow5, hbw5, HSN⟩
                case measure => simp [intOf]; omega
      · have hkN : k = N := by omega
        have HF := Lib.hid (show acc ++ [109] = seqP s.codes by
          rw [HS.out, HZ.out.1, hkN, HN.out, List.take_length])
        have hz := HZ.out.2
        have hz2 : acc.length + (⟨#[109]⟩ : ByteArray).size ≤ 140737488355328 := by show acc.length + 1 ≤ _; omega
        subst hkN
        clear hz
        go_wp2_with fail
        refine (bld_write w.heap.size w.heap.size acc (⟨#[109]⟩ : ByteArray) _ hbl hz2 hszw).mono ?_
        rintro e w5 ⟨rfl, hbl5, hb5, _⟩
        have hbw5 := hbw.trans hb5
        go_wp2_with fail
        refine (bld_string w.heap.size w.heap.size _ _ hbl5 hbw5.size).mono ?_
        rintro e w6 ⟨rfl, _, hb6, _⟩
        have hbw6 := hbw5.trans hb6
        go_wp2
        go_ret
        exact ⟨ret_str (by rw [← HF.out]), hbw6⟩
end Go.Proofs.YtlclmpiocbkabaaDoor
