/- Walk of laws.FnPaintTitleLower: it answers true and writes nothing that was there. Condition: the table of powers of ten reads as it was laid. -/
import Derived.Test.YtlclmpiocbkabaaDoorTitlePlain
import Derived.Test.YtlclmpiocbkabaaDoorWritten
import Derived.Test.YtlclmpiocbkabaaDoorIs
namespace Go.Proofs.YtlclmpiocbkabaaDoor
open Go.RowKit
set_option linter.unusedVariables false
set_option linter.unusedSimpArgs false

def letterB (r : Int) : Bool := (decide (97 ≤ r) && decide (r ≤ 122)) || (decide (65 ≤ r) && decide (r ≤ 90))
def titleC (x : Int × List Int) : Bool := letterB x.1 || decide (x.1 = 32) || decide (x.1 = 45)
set_option maxHeartbeats 1000000 in
theorem letter_any (r : Int) (w : World) : Calls Tryd.prog 22 #[.int .i32 r] w fun e w' => e = .returned (.bool (letterB r)) ∧ w = w' := by
  go_enter Tryd.func22, Tryd.ntmps22
  go_wp2
  all_goals (go_ret; exact ⟨ret_bool (by rw [Bool.eq_iff_iff]; simp [letterB]; try omega), rfl⟩)
set_option maxRecDepth 100000 in
set_option maxHeartbeats 2000000 in
theorem titles_any (A : Option Addr) (n c : Nat) (l : List (Int × List Int)) (w : World) (h : CellsAt w w.heap.size A n c l) :
    Calls Tryd.prog 8 #[.slice A n c] w fun e w' => e = .returned (.bool (l.all titleC)) ∧ Below w.heap.size w w' := by
  have hm := h.small
  have HL := Lib.hid h.len
  go_enter Tryd.func8, Tryd.ntmps8
  go_wp2
  go_loopw [7] (fun i wr => ∃ k : Nat, k ≤ n ∧ i = .int .i64 k ∧ Hid (l.all titleC = (l.drop k).all titleC) ∧ Below w.heap.size w wr) (fun i _ => n - (intOf i).toNat)
  case atStart => exact ⟨0, Nat.zero_le _, rfl, Lib.hid rfl, Below.refl _ _⟩
  case round =>
    obtain ⟨k, hk, rfl, HR, hbw⟩ := hrel
    have hsz := hbw.size
    by_cases hlt : k < n
    · obtain ⟨ad, r, cs, A', n', c', rfl, _, hy, hc0, hc1, _⟩ := (h.below hbw).at_ hlt
      have hk1 : (k : Int) < (n : Int) := by omega
      have HY := Lib.hid hy
      have hb1 := hbw.alloc hsz (.cells #[.int .i32 r, .slice A' n' c'] 54)
      clear hy
      cases hl : letterB r with
      | true =>
        have HX := Lib.hid (show l.all titleC = (l.drop (k + 1)).all titleC by
          rw [HR.out, drop_step HY.out, List.all_cons, show titleC (r, cs) = true by unfold titleC; rw [hl]; rfl]; rfl)
        have HLB := Lib.hid hl
        clear hbw hl
        go_wp2_with fail
        refine (letter_any r _).mono ?_
        rintro e w2 ⟨rfl, rfl⟩
        rw [HLB.out]
        go_wp2
        go_roundw
        case rel => exact ⟨k + 1, by omega, by go_num, HX, hb1⟩
        case measure => simp [intOf]; omega
      | false =>
        have HLB := Lib.hid hl
        by_cases h32 : r = 32
        · subst h32
          have HX := Lib.hid (show l.all titleC = (l.drop (k + 1)).all titleC by
            rw [HR.out, drop_step HY.out, List.all_cons, show titleC (32, cs) = true from rfl]; rfl)
          clear hbw hl
          go_wp2_with fail
          refine (letter_any 32 _).mono ?_
          rintro e w2 ⟨rfl, rfl⟩
          rw [HLB.out]
          go_wp2
          go_roundw
          case rel => exact ⟨k + 1, by omega, by go_num, HX, hb1⟩
          case measure => simp [intOf]; omega
        by_cases h45 : r = 45
        · subst h45
          have HX := Lib.hid (show l.all titleC = (l.drop (k + 1)).all titleC by
            rw [HR.out, drop_step HY.out, List.all_cons, show titleC (45, cs) = true from rfl]; rfl)
          clear hbw hl
          go_wp2_with fail
          refine (letter_any 45 _).mono ?_
          rintro e w2 ⟨rfl, rfl⟩
          rw [HLB.out]
          go_wp2
          go_roundw
          case rel => exact ⟨k + 1, by omega, by go_num, HX, hb1⟩
          case measure => simp [intOf]; omega
        have q1 : (r != 32) = true := bne_iff_ne.2 h32
        have q2 : (r != 45) = true := bne_iff_ne.2 h45
        have HX := Lib.hid (show l.all titleC = false by
          rw [HR.out, drop_step HY.out, List.all_cons, show titleC (r, cs) = false by unfold titleC; rw [hl, decide_eq_false h32, decide_eq_false h45]; rfl]; rfl)
        clear hbw hl h32 h45
        go_wp2_with fail
        refine (letter_any r _).mono ?_
        rintro e w2 ⟨rfl, rfl⟩
        rw [HLB.out]
        go_wp2
        go_ret
        exact ⟨ret_bool HX.out.symm, hb1⟩
    · have HX := Lib.hid (show l.all titleC = true by rw [HR.out, List.drop_of_length_le (by rw [HL.out]; omega)]; rfl)
      go_wp2
      go_ret
      exact ⟨ret_bool HX.out.symm, hbw⟩

set_option maxHeartbeats 1000000 in
theorem case_any (r : Int) (w : World) (h : 0 ≤ r ∧ r ≤ 1114111) : Calls Tryd.prog 25 #[.int .i32 r, .int .i64 1] w fun e w' => e = .returned (.int .i32 (Lib.toLowerR r)) ∧ w = w' := by
  have h0 := h.1
  have h1 := h.2
  by_cases hu : 65 ≤ r ∧ r ≤ 90
  · have HB := Lib.hid (show Lib.toLowerR r = r + 32 by unfold Lib.toLowerR; rw [if_pos hu])
    have h2 := hu.1
    have h3 := hu.2
    clear hu h
    go_enter Tryd.func25, Tryd.ntmps25
    go_wp2
    go_ret
    exact ⟨ret_int HB.out.symm, rfl⟩
  · have HB := Lib.hid (show Lib.toLowerR r = r by unfold Lib.toLowerR; rw [if_neg hu])
    by_cases h2 : 65 ≤ r
    · have h3 : ¬ r ≤ 90 := by omega
      clear hu h
      go_enter Tryd.func25, Tryd.ntmps25
      go_wp2
      go_ret
      exact ⟨ret_int HB.out.symm, rfl⟩
    · clear hu h
      go_enter Tryd.func25, Tryd.ntmps25
      go_wp2
      go_ret
      exact ⟨ret_int HB.out.symm, rfl⟩

/-- Cells of the program's own make over slices that came in. -/
def LowRel (w w0 : World) (v : Value) (k : Nat) (l : List (Int × List Int)) : Prop :=
  ∃ xs, w.ownsRow w0.heap.size 54 2 v k xs ∧ l.length = k ∧ ∀ j r cs, l[j]? = some (r, cs) → ∃ A' n' c', xs[2 * j]? = some (.int .i32 r) ∧ xs[2 * j + 1]? = some (.slice A' n' c') ∧ IntsAt w0 w0.heap.size A' n' c' cs
theorem LowRel.rd {w w0 : World} {v : Value} {k : Nat} {l : List (Int × List Int)} (h : LowRel w w0 v k l) (hb : Below w0.heap.size w0 w) : ∃ A c, v = .slice A k c ∧ CellsAt w w.heap.size A k c l := by
  obtain ⟨xs, h1, h2, h3⟩ := h
  obtain ⟨A, c, e, hr⟩ := own_rd h1
  refine ⟨A, c, e, xs, hr, h2, fun j r cs hj => ?_⟩
  obtain ⟨A', n', c', a, b, d⟩ := h3 j r cs hj
  exact ⟨A', n', c', a, b, (d.below hb).more hb.size⟩
theorem low_snoc {w0 w' : World} {v' : Value} {k : Nat} {xs : List Value} {l : List (Int × List Int)} {r : Int} {cs : List Int} {A' : Option Addr} {n' c' : Nat} (hx : xs.length = k * 2) (hl : l.length = k)
    (h3 : ∀ j r cs, l[j]? = some (r, cs) → ∃ A' n' c', xs[2 * j]? = some (.int .i32 r) ∧ xs[2 * j + 1]? = some (.slice A' n' c') ∧ IntsAt w0 w0.heap.size A' n' c' cs) (hi : IntsAt w0 w0.heap.size A' n' c' cs)
    (hown : w'.ownsRow w0.heap.size 54 2 v' (k + 1) (xs ++ [.int .i32 r, .slice A' n' c'])) : LowRel w' w0 v' (k + 1) (l ++ [(r, cs)]) := by
  refine ⟨_, hown, by rw [List.length_append, hl]; rfl, fun j r2 cs2 hj => ?_⟩
  rcases Nat.lt_or_ge j k with hlt | hge
  · rw [List.getElem?_append_left (by omega)] at hj
    obtain ⟨A2, n2, c2, a, b, d⟩ := h3 j r2 cs2 hj
    have key : ∀ i v, xs[i]? = some v → (xs ++ [Value.int .i32 r, .slice A' n' c'])[i]? = some v := fun i v hi => by rw [List.getElem?_append_left (List.getElem?_eq_some_iff.1 hi).1]; exact hi
    exact ⟨A2, n2, c2, key _ _ a, key _ _ b, d⟩
  · rw [List.getElem?_append_right (by omega), hl] at hj
    have hjk : j = k := by
      have := (List.getElem?_eq_some_iff.1 hj).1
      simp at this
      omega
    subst hjk
    rw [Nat.sub_self] at hj
    simp at hj
    obtain ⟨rfl, rfl⟩ := hj
    have key : ∀ i, (xs ++ [Value.int .i32 r, .slice A' n' c'])[2 * j + i]? = [Value.int .i32 r, .slice A' n' c'][i]? := fun i => by
      rw [List.getElem?_append_right (by omega), hx, show 2 * j + i - j * 2 = i by omega]
    exact ⟨A', n', c', key 0, key 1, hi⟩
set_option maxRecDepth 100000 in
set_option maxHeartbeats 4000000 in
theorem ptLower_any (A : Option Addr) (n c : Nat) (l : List (Int × List Int)) (w : World) (h : CellsAt w w.heap.size A n c l) (hn : n ≤ 1000000) (hl : ∀ x ∈ l, 0 ≤ x.1 ∧ x.1 ≤ 1114111) :
    Calls Tryd.prog 11 #[.slice A n c] w fun e w' => ∃ A' c', e = .returned (.slice A' n c') ∧ CellsAt w' w'.heap.size A' n c' (l.map lowC) ∧ Below w.heap.size w w' := by
  obtain ⟨i0, hi, hz0, hz1, hz2⟩ := info_parts infoCell
  have HL := Lib.hid h.len
  have HR := Lib.hid hl
  have H := Lib.hid h
  clear hl
  go_enter Tryd.func11, Tryd.ntmps11
  go_wp2
  go_loopw [3, 8] (fun v3 v8 wr => ∃ k : Nat, k ≤ n ∧ v8 = .int .i64 k ∧ LowRel wr w v3 k ((l.take k).map lowC) ∧ Below w.heap.size w wr) (fun _ v8 _ => n - (intOf v8).toNat)
  case atStart => exact ⟨0, Nat.zero_le _, rfl, ⟨[], World.ownsRow_nil _ _ _ _, rfl, fun j r cs hj => by simp at hj⟩, Below.refl _ _⟩
  case round =>
    obtain ⟨k, hk, rfl, hrel2, hbw⟩ := hrel
    have hsz := hbw.size
    by_cases hlt : k < n
    · obtain ⟨ad, r, cs, A', n', c', rfl, hblk, hy, hc0, hc1, _⟩ := (h.below hbw).at_ hlt
      have hk1 : (k : Int) < (n : Int) := by omega
      have hr := HR.out (r, cs) (List.mem_of_getElem? hy)
      have hi0 : IntsAt w w.heap.size A' n' c' cs := by
        obtain ⟨ad2, r2, cs2, A2, n2, c2, e2, _, hy2, _, hd1, hi2⟩ := H.out.at_ hlt
        injection e2 with e2
        subst e2
        rw [hy] at hy2
        injection hy2 with hy2
        injection hy2 with z1 z2
        subst z1 z2
        have hh := (hbw.cell (p := ⟨(ad.add (k * 2)).block, (ad.add (k * 2)).off + 1, none⟩) (by show (ad.add (k * 2)).block < w.heap.size; rw [add_block]; exact hblk)).symm.trans hc1
        rw [hd1] at hh
        injection hh with hh
        injection hh with y1 y2 y3
        subst y1 y2 y3
        exact hi2
      have HI := Lib.hid hi0
      have HST := Lib.hid (show (l.take (k + 1)).map lowC = (l.take k).map lowC ++ [(Lib.toLowerR r, cs)] by rw [take_step hy, List.map_append]; rfl)
      obtain ⟨u, hu⟩ : ∃ u, u = Lib.toLowerR r := ⟨_, rfl⟩
      have HU := Lib.hid hu
      obtain ⟨xs, hx1, hx2, hx3⟩ := hrel2
      have HX3 := Lib.hid hx3
      have HX2 := Lib.hid hx2
      have hf0 : (wr.alloc (.cells #[.int .i32 r, .slice A' n' c'] 54)).frozen? ⟨wr.heap.size, 0, none⟩ = false := frozen_of_row _ wr.heap.size 0 _ _ (heap_alloc_new wr _)
      clear hy hi0 hu hx2 hx3
      go_wp2_with fail
      refine (case_any r _ hr).mono ?_
      rintro e w2 ⟨rfl, rfl⟩
      rw [← HU.out]
      have hxa := hx1.alloc (.cells #[.int .i32 u, .slice A' n' c'] 54)
      have hba := hbw.alloc hsz (.cells #[.int .i32 u, .slice A' n' c'] 54)
      obtain ⟨wx, hwx⟩ : ∃ wx, wx = wr.alloc (.cells #[.int .i32 u, .slice A' n' c'] 54) := ⟨_, rfl⟩
      have hcx0 : wx.cell? ⟨wr.heap.size, 0, none⟩ = some (.int .i32 u) := by rw [hwx]; exact cell_of_row _ wr.heap.size 0 _ _ _ (heap_alloc_new wr _)
      have hcx1 : wx.cell? ⟨wr.heap.size, 1, none⟩ = some (.slice A' n' c') := by rw [hwx]; exact cell_of_row _ wr.heap.size 1 _ _ _ (heap_alloc_new wr _)
      rw [← hwx] at hxa hba
      have HWX := Lib.hid hwx
      have hszx := hba.size
      clear hx1 hwx hbw
      go_upto_region 6 with (fail)
      rw [← HWX.out]
      go_wp2_with (at_builtin; go_loud (refine wpList_append_own _ rfl _ _ 24 rfl w.heap.size 54 i0 (.agg #[.int .i32 0, .slice none 0 0]) 2 32 Tryd.underlying24 hi hz0 hz1 hz2 rfl (by decide) _ _ _ rfl (hxa.alloc _) ⟨wx.heap.size, 0, none⟩ 1 1 [.int .i32 u, .slice A' n' c'] rfl rfl (World.news_of_block (cs := #[.int .i32 u, .slice A' n' c']) (heap_alloc_new _ _)) (by intro u hu; simp at hu; rcases hu with rfl | rfl <;> rfl) (by unfold maxLen; omega) (by omega) (by simp; omega) ?_))
      intro v' w5 hown' hgrow _
      have hb5 := (hba.alloc hszx (.cells #[.int .i32 u, .slice A' n' c'] 54)).grown hgrow (by simp; omega) (fun j hj => (World.ownsRow.lt hxa _ hj).1)
      have hlow := low_snoc hxa.1 HX2.out HX3.out HI.out hown'
      rw [HU.out, ← HST.out] at hlow
      clear hgrow hxa hba hown' hcx0 hcx1 hf0
      go_wp2
      go_roundw
      case rel => exact ⟨k + 1, by omega, by go_num, hlow, hb5⟩
      case measure => simp [intOf]; omega
    · have hkn : k = n := by omega
      subst hkn
      obtain ⟨A9, c9, rfl, hc9⟩ := hrel2.rd hbw
      rw [List.take_of_length_le (by rw [HL.out]; exact Nat.le_refl _)] at hc9
      go_wp2
      go_ret
      exact ⟨_, _, rfl, hc9, hbw⟩

theorem results_tmp4' {fn : Func} {t u v x : Tmp} (h : fn.results = #[.tmp t, .tmp u, .tmp v, .tmp x]) (tmps : Array Value) (P : Program) (w : World) :
    (results fn tmps).run P w = .ok (.tuple #[tmps.getD t undef, tmps.getD u undef, tmps.getD v undef, tmps.getD x undef]) w := by
  simp [results, h]
theorem written_len' {l : List Piece} (hg : ∀ s ∈ l, s.text.size ≤ 500 ∧ s.codes.length ≤ 4 ∧ ∀ x ∈ s.codes, 0 ≤ x ∧ x < 1000) : (writtenL l).length ≤ 600 * l.length := by
  induction l with
  | nil => simp [writtenL]
  | cons p l ih =>
    have h1 := ih fun s hs => hg s (by simp [hs])
    have h2 := hg p (by simp)
    have h3 := seq_size p.codes h2.2.2
    have h4 := h2.1
    rw [← bl_size] at h4
    unfold writtenL at h1 ⊢
    rw [List.flatMap_cons]
    simp only [List.length_append, List.length_cons]
    omega
/-- What ptCells tells of pieces without line ends. -/
def CellsRead (l : List Piece) (e : Ending) (w' : World) : Prop :=
  match (if goodPiecesB false l = true then readText ⟨(writtenL l).toArray⟩ else none) with
  | none => ∃ v1 v2 v3 : Value, e = .returned (.tuple #[v1, v2, v3, .bool false])
  | some (cells, on) => ∃ A1 n1 c1 A2 n2 c2, e = .returned (.tuple #[.string ⟨(writtenL l).toArray⟩, .slice A1 n1 c1, .slice A2 n2 c2, .bool true]) ∧ CellsAt w' w'.heap.size A1 n1 c1 cells ∧ IntsAt w' w'.heap.size A2 n2 c2 on
set_option maxRecDepth 100000 in
set_option maxHeartbeats 4000000 in
theorem ptCellsF_any (A : Option Addr) (n c : Nat) (l : List Piece) (w : World) (h : PiecesAt w w.heap.size A n c l) (ht : TabW w) :
    Calls Tryd.prog 7 #[.slice A n c, .bool false] w fun e w' => CellsRead l e w' ∧ Below w.heap.size w w' := by
  have HT := Lib.hid ht
  cases hg : goodPiecesB false l with
  | false =>
    have HG := Lib.hid hg
    clear hg ht
    go_enter Tryd.func7, Tryd.ntmps7
    go_wp2_with fail
    refine (good_any A n c l false _ h).mono ?_
    rintro e w1 ⟨rfl, hb1⟩
    rw [HG.out]
    go_wp2
    (try simp only [Exit.inBlock, Exit.then])
    refine bodyPost_ret (results_tmp4' rfl _ _ _) rfl ?_
    refine ⟨?_, hb1⟩
    unfold CellsRead
    rw [if_neg (by rw [HG.out]; simp)]
    exact ⟨_, _, _, rfl⟩
  | true =>
    have HG := Lib.hid hg
    have hsz := good_sizes hg
    have hwl := written_len' hsz.2
    have HS := Lib.hid hsz
    obtain ⟨s, hs⟩ : ∃ s : ByteArray, s = ⟨(writtenL l).toArray⟩ := ⟨_, rfl⟩
    have hs2 : s.size ≤ 65536 := by rw [hs, mk_size]; have := hsz.1; omega
    have HSE := Lib.hid hs
    clear hg ht hsz hwl hs
    go_enter Tryd.func7, Tryd.ntmps7
    go_wp2_with fail
    refine (good_any A n c l false _ h).mono ?_
    rintro e w1 ⟨rfl, hb1⟩
    rw [HG.out]
    have h1 := (h.below hb1).more hb1.size
    have ht1 := HT.out.below hb1
    go_wp2_with fail
    refine (written_any A n c l _ h1 HS.out.1 HS.out.2 ht1).mono ?_
    rintro e w2 ⟨rfl, hb2⟩
    rw [← HSE.out]
    have hb12 := hb1.trans (hb2.mono hb1.size)
    clear h1 ht1 hb1 hb2
    go_wp2_with fail
    refine (read_any s _ hs2).mono ?_
    rintro e w3 ⟨hb3, hpost⟩
    have hb13 := hb12.trans (hb3.mono hb12.size)
    clear hb12 hb3
    cases hr : readText s with
    | none =>
      rw [hr] at hpost
      dsimp only at hpost
      subst hpost
      have HR := Lib.hid hr
      clear hr
      go_wp2
      (try simp only [Exit.inBlock, Exit.then])
      refine bodyPost_ret (results_tmp4' rfl _ _ _) rfl ?_
      refine ⟨?_, hb13⟩
      unfold CellsRead
      rw [if_pos HG.out, ← HSE.out, HR.out]
      exact ⟨_, _, _, rfl⟩
    | some x =>
      rw [hr] at hpost
      obtain ⟨cells, on⟩ := x
      dsimp only at hpost
      obtain ⟨A1, n1, c1, A2, n2, c2, rfl, hca, hia⟩ := hpost
      have HR := Lib.hid hr
      have HCA := Lib.hid hca
      have HIA := Lib.hid hia
      clear hr hca hia
      go_wp2
      (try simp only [Exit.inBlock, Exit.then])
      refine bodyPost_ret (results_tmp4' rfl _ _ _) rfl ?_
      refine ⟨?_, hb13⟩
      unfold CellsRead
      rw [if_pos HG.out, ← HSE.out, HR.out]
      exact ⟨A1, n1, c1, A2, n2, c2, rfl, HCA.out, HIA.out⟩
theorem title_range {x : Int × List Int} (h : titleC x = true) : 0 ≤ x.1 ∧ x.1 < 128 := by
  unfold titleC letterB at h
  simp at h
  omega
theorem lowered_size (s : ByteArray) : (loweredB s).size = s.size := by
  unfold loweredB Lib.toLowerA
  rw [mk_size, List.length_map, bl_size]
theorem titled_size (s : ByteArray) : (titledB s).size = s.size := by
  unfold titledB titled
  rw [mk_size, title_len, bl_size]
theorem titled_ascii {s : ByteArray} (h : ∀ b ∈ bl s, b.toNat < 128) : ∀ b ∈ bl (titledB s), b.toNat < 128 := by
  unfold titledB titled
  rw [bl_mk]
  exact title_ascii _ _ _ h
theorem lowered_A : loweredB ⟨#[65]⟩ = ⟨#[97]⟩ := rfl

set_option maxRecDepth 100000 in
set_option maxHeartbeats 8000000 in
theorem titleLower_any (A : Option Addr) (n c : Nat) (l : List Piece) (w : World) (h : PiecesAt w w.heap.size A n c l) (ht : TabW w) :
    Calls Tryd.prog 3 #[.slice A n c] w fun e w' => e = .returned (.bool true) ∧ Below w.heap.size w w' := by
  have HT := Lib.hid ht
  clear ht
  cases hf : fitPiecesB l with
  | false =>
    have HF := Lib.hid hf
    clear hf
    go_enter Tryd.func3, Tryd.ntmps3
    go_wp2_with fail
    refine (fitPieces_any _ _ _ l _ h).mono ?_
    rintro e w1 ⟨rfl, hb1⟩
    rw [HF.out]
    go_wp2
    go_ret
    exact ⟨rfl, hb1⟩
  | true =>
  have HF := Lib.hid hf
  clear hf
  cases hc : (if goodPiecesB false l = true then readText ⟨(writtenL l).toArray⟩ else none) with
  | none =>
    have HC := Lib.hid hc
    clear hc
    go_enter Tryd.func3, Tryd.ntmps3
    go_wp2_with fail
    refine (fitPieces_any _ _ _ l _ h).mono ?_
    rintro e w1 ⟨rfl, hb1⟩
    rw [HF.out]
    have h1 := (h.below hb1).more hb1.size
    have ht1 := HT.out.below hb1
    go_wp2_with fail
    refine (ptCellsF_any _ _ _ l _ h1 ht1).mono ?_
    rintro e w2 ⟨htold, hb2⟩
    unfold CellsRead at htold
    rw [HC.out] at htold
    obtain ⟨v1, v2, v3, rfl⟩ := htold
    have hb12 := hb1.trans (hb2.mono hb1.size)
    clear h1 ht1 hb1 hb2
    go_wp2
    go_ret
    exact ⟨rfl, hb12⟩
  | some x =>
  obtain ⟨cells, on⟩ := x
  have HC := Lib.hid hc
  have hgood : goodPiecesB false l = true := by
    cases hg : goodPiecesB false l with
    | true => rfl
    | false => rw [if_neg (by rw [hg]; simp)] at hc; cases hc
  rw [if_pos hgood] at hc
  obtain ⟨s, hs⟩ : ∃ s : ByteArray, s = ⟨(writtenL l).toArray⟩ := ⟨_, rfl⟩
  have hsz : s.size ≤ 24000 := by
    have h1 := good_sizes hgood
    rw [hs, mk_size]
    have := written_len' h1.2
    have := h1.1
    omega
  rw [← hs] at hc
  have HS := Lib.hid hs
  have HRD := Lib.hid hc
  clear hs hc hgood
  cases htt : cells.all titleC with
  | false =>
    have HTT := Lib.hid htt
    clear htt
    go_enter Tryd.func3, Tryd.ntmps3
    go_wp2_with fail
    refine (fitPieces_any _ _ _ l _ h).mono ?_
    rintro e w1 ⟨rfl, hb1⟩
    rw [HF.out]
    have h1 := (h.below hb1).more hb1.size
    have ht1 := HT.out.below hb1
    go_wp2_with fail
    refine (ptCellsF_any _ _ _ l _ h1 ht1).mono ?_
    rintro e w2 ⟨htold, hb2⟩
    unfold CellsRead at htold
    rw [HC.out] at htold
    obtain ⟨A1, n1, c1, A2, n2, c2, rfl, hca, hia⟩ := htold
    rw [← HS.out]
    have hb12 := hb1.trans (hb2.mono hb1.size)
    clear h1 ht1 hb1 hb2
    go_wp2_with fail
    refine (titles_any A1 n1 c1 cells _ hca).mono ?_
    rintro e w3 ⟨rfl, hb3⟩
    rw [HTT.out]
    have hb13 := hb12.trans (hb3.mono hb12.size)
    clear hb12 hb3
    go_wp2
    go_ret
    exact ⟨rfl, hb13⟩
  | true =>
  have hall : ∀ x ∈ cells, titleC x = true := List.all_eq_true.1 htt
  have hasc : ∀ b ∈ bl s, b.toNat < 128 := by
    refine low_all fun r hr => ?_
    have h1 := (read_low (runes s).length (runes s) [] [] cells on (Nat.le_refl _) HRD.out).1 r hr
    rcases h1 with h1 | ⟨x, hx, rfl⟩
    · exact h1
    · exact (title_range (hall x hx)).2
  have HCNT := Lib.hid (show cells.length ≤ 24000 by
    have h1 := read_count (runes s).length (runes s) [] [] cells on (Nat.le_refl _) HRD.out
    have h2 := runes_length s
    simp at h1
    omega)
  have HTT := Lib.hid htt
  have HASC := Lib.hid hasc
  have HALL := Lib.hid (show ∀ x ∈ cells, 0 ≤ x.1 ∧ x.1 ≤ 1114111 from fun x hx => by have := title_range (hall x hx); omega)
  have HLOW := Lib.hid (readText_lowered hasc HRD.out)
  obtain ⟨s1, hs1⟩ : ∃ s1, s1 = loweredB s := ⟨_, rfl⟩
  obtain ⟨s2, hs2⟩ : ∃ s2, s2 = titledB s1 := ⟨_, rfl⟩
  have HS3 := Lib.hid (show loweredB s2 = s1 by rw [hs2, hs1]; exact lower_title_lower hasc)
  have ha1 : ∀ b ∈ bl s1, b.toNat < 128 := by rw [hs1]; exact lowered_ascii hasc
  have ha2 : ∀ b ∈ bl s2, b.toNat < 128 := by rw [hs2]; exact titled_ascii ha1
  have hz1 : s1.size ≤ 24000 := by rw [hs1, lowered_size]; exact hsz
  have hz2 : s2.size ≤ 24000 := by rw [hs2, titled_size]; exact hz1
  have HA1 := Lib.hid ha1
  have HA2 := Lib.hid ha2
  have HS1 := Lib.hid hs1
  have HS2 := Lib.hid hs2
  have hclen : cells.length ≤ 1000000 ∨ ¬ cells.length ≤ 1000000 := by omega
  clear htt hall hasc hs1 hs2 ha1 ha2 hclen
  go_enter Tryd.func3, Tryd.ntmps3
  go_wp2_with fail
  refine (fitPieces_any _ _ _ l _ h).mono ?_
  rintro e w1 ⟨rfl, hb1⟩
  rw [HF.out]
  have h1 := (h.below hb1).more hb1.size
  have ht1 := HT.out.below hb1
  go_wp2_with fail
  refine (ptCellsF_any _ _ _ l _ h1 ht1).mono ?_
  rintro e w2 ⟨htold, hb2⟩
  unfold CellsRead at htold
  rw [HC.out] at htold
  obtain ⟨A1, n1, c1, A2, n2, c2, rfl, hca, hia⟩ := htold
  rw [← HS.out]
  have hb12 := hb1.trans (hb2.mono hb1.size)
  clear h1 ht1 hb1 hb2
  go_wp2_with fail
  refine (titles_any A1 n1 c1 cells _ hca).mono ?_
  rintro e w3 ⟨rfl, hb3⟩
  rw [HTT.out]
  have hca3 := (hca.below hb3).more hb3.size
  have hia3 := (hia.below hb3).more hb3.size
  have hb13 := hb12.trans (hb3.mono hb12.size)
  clear hb12 hb3 hca hia
  go_wp2_with fail
  refine (fmtLower_any s _ HASC.out (by omega)).mono ?_
  rintro e w4 ⟨rfl, hb4⟩
  rw [← HS1.out]
  have hca4 := (hca3.below hb4).more hb4.size
  have hia4 := (hia3.below hb4).more hb4.size
  have hb14 := hb13.trans (hb4.mono hb13.size)
  clear hb13 hb4 hca3 hia3
  go_wp2_with fail
  refine (fmtTitle_any s1 _ HA1.out (by omega)).mono ?_
  rintro e w5 ⟨rfl, hb5⟩
  rw [← HS2.out]
  have hca5 := (hca4.below hb5).more hb5.size
  have hia5 := (hia4.below hb5).more hb5.size
  have hb15 := hb14.trans (hb5.mono hb14.size)
  clear hb14 hb5 hca4 hia4
  go_wp2_with fail
  refine (fmtLower_any s2 _ HA2.out (by omega)).mono ?_
  rintro e w6 ⟨rfl, hb6⟩
  rw [HS3.out]
  have hca6 := (hca5.below hb6).more hb6.size
  have hia6 := (hia5.below hb6).more hb6.size
  have hb16 := hb15.trans (hb6.mono hb15.size)
  clear hb15 hb6 hca5 hia5
  go_wp2_with fail
  refine (ptLower_any A1 n1 c1 cells _ hca6 ?_ HALL.out).mono ?_
  · have h1 := hca6.len
    have h2 := HCNT.out
    omega
  rintro e w7 ⟨A7, c7, rfl, hca7, hb7⟩
  have hia7 := (hia6.below hb7).more hb7.size
  have hb17 := hb16.trans (hb7.mono hb16.size)
  clear hb16 hb7 hca6 hia6
  go_wp2_with fail
  refine (is_true s1 A7 A2 n1 c7 n2 c2 (cells.map lowC) (cells.map lowC) on on _ (by omega) hca7 hia7 (by rw [HS1.out]; exact HLOW.out) (sameB_self _) ((alike_iff on on).2 ⟨fun _ h => h, fun _ h => h⟩)).mono ?_
  rintro e w8 ⟨rfl, hb8⟩
  have hb18 := hb17.trans (hb8.mono hb17.size)
  clear hb17 hb8 hca7 hia7
  go_wp2_with fail
  refine (fmtLower_any ⟨#[65]⟩ _ (by decide) (by decide)).mono ?_
  rintro e w9 ⟨rfl, hb9⟩
  rw [lowered_A]
  have hb19 := hb18.trans (hb9.mono hb18.size)
  go_wp2
  go_ret
  exact ⟨rfl, hb19⟩
end Go.Proofs.YtlclmpiocbkabaaDoor
