/- Walks of laws.ptCells, impl.TextEscape, spec.PtEscaped: what they make. Condition: sizes below the bounds that are named; the table of powers of ten reads as it was laid. -/
import Derived.Test.YtaebdgjebdjlaaaDoorWritten
namespace Go.Proofs.YtaebdgjebdjlaaaDoor
open Go.RowKit

theorem writtenL_len {l : List Piece} (hg : ∀ s ∈ l, s.text.size ≤ 500 ∧ s.codes.length ≤ 4 ∧ ∀ x ∈ s.codes, 0 ≤ x ∧ x < 1000) : (writtenL l).length ≤ 600 * l.length := by
  induction l with
  | nil => simp [writtenL]
  | cons p l ih =>
    have h1 := ih fun s hs => hg s (by simp [hs])
    have h2 := hg p (by simp)
    have h3 := seq_size p.codes h2.2.2
    have h4 := h2.1
    rw [← bl_size] at h4
    unfold writtenL at h1 ⊢
    rw [List.flatMap_cons]
    simp only [List.length_append, List.length_cons]
    omega

theorem results_tmp4 {fn : Func} {t u v x : Tmp} (h : fn.results = #[.tmp t, .tmp u, .tmp v, .tmp x]) (tmps : Array Value) (P : Program) (w : World) :
    (results fn tmps).run P w = .ok (.tuple #[tmps.getD t undef, tmps.getD u undef, tmps.getD v undef, tmps.getD x undef]) w := by
  simp [results, h]

/-- What ptCells tells: the text, and whether it reads. -/
def CellsTold (l : List Piece) (e : Ending) : Prop :=
  if goodPiecesB true l = true then ∃ (v2 v3 : Value), e = .returned (.tuple #[.string ⟨(writtenL l).toArray⟩, v2, v3, .bool (readText ⟨(writtenL l).toArray⟩).isSome])
  else e = .returned (.tuple #[.string ⟨#[]⟩, .slice none 0 0, .slice none 0 0, .bool false])

set_option maxRecDepth 100000 in
set_option maxHeartbeats 4000000 in
theorem ptCells_any (A : Option Addr) (n c : Nat) (l : List Piece) (w : World) (h : PiecesAt w w.heap.size A n c l) (ht : TabW w) :
    Calls Tryd.prog 14 #[.slice A n c, .bool true] w fun e w' => CellsTold l e ∧ Below w.heap.size w w' := by
  have HT := Lib.hid ht
  cases hg : goodPiecesB true l with
  | false =>
    have HG := Lib.hid hg
    clear hg ht
    go_enter Tryd.func14, Tryd.ntmps14
    go_wp2_with fail
    refine (good_any A n c l true _ h).mono ?_
    rintro e w1 ⟨rfl, hb1⟩
    rw [HG.out]
    go_wp2
    (try simp only [Exit.inBlock, Exit.then])
    refine bodyPost_ret (results_tmp4 rfl _ _ _) rfl ?_
    refine ⟨?_, hb1⟩
    unfold CellsTold
    rw [if_neg (by rw [HG.out]; simp)]
    rfl
  | true =>
    have HG := Lib.hid hg
    have hsz := good_sizes hg
    have hwl := writtenL_len hsz.2
    have HS := Lib.hid hsz
    obtain ⟨s, hs⟩ : ∃ s : ByteArray, s = ⟨(writtenL l).toArray⟩ := ⟨_, rfl⟩
    have hs2 : s.size ≤ 65536 := by rw [hs, mk_size]; have := hsz.1; omega
    have HSE := Lib.hid hs
    clear hg ht hsz hwl hs
    go_enter Tryd.func14, Tryd.ntmps14
    go_wp2_with fail
    refine (good_any A n c l true _ h).mono ?_
    rintro e w1 ⟨rfl, hb1⟩
    rw [HG.out]
    have h1 := (h.below hb1).more hb1.size
    have ht1 := HT.out.below hb1
    go_wp2_with fail
    refine (written_any A n c l _ h1 HS.out.1 HS.out.2 ht1).mono ?_
    rintro e w2 ⟨rfl, hb2⟩
    rw [← HSE.out]
    have hb12 := hb1.trans (hb2.mono hb1.size)
    clear h1 ht1 hb1 hb2
    go_wp2_with fail
    refine (read_any s _ hs2).mono ?_
    rintro e w3 ⟨hb3, hpost⟩
    have hb13 := hb12.trans (hb3.mono hb12.size)
    clear hb12 hb3
    cases hr : readText s with
    | none =>
      rw [hr] at hpost
      dsimp only at hpost
      subst hpost
      have HR := Lib.hid hr
      clear hr
      go_wp2
      (try simp only [Exit.inBlock, Exit.then])
      refine bodyPost_ret (results_tmp4 rfl _ _ _) rfl ?_
      refine ⟨?_, hb13⟩
      unfold CellsTold
      rw [if_pos HG.out, ← HSE.out, HR.out]
      exact ⟨_, _, rfl⟩
    | some x =>
      rw [hr] at hpost
      obtain ⟨cells, on⟩ := x
      dsimp only at hpost
      obtain ⟨A1, n1, c1, A2, n2, c2, rfl, _, _⟩ := hpost
      have HR := Lib.hid hr
      clear hr
      go_wp2
      (try simp only [Exit.inBlock, Exit.then])
      refine bodyPost_ret (results_tmp4 rfl _ _ _) rfl ?_
      refine ⟨?_, hb13⟩
      unfold CellsTold
      rw [if_pos HG.out, ← HSE.out, HR.out]
      exact ⟨_, _, rfl⟩

set_option maxHeartbeats 1000000 in
theorem textEscape_any (s q : ByteArray) (w : World) (hs : s.size ≤ 1099511627776) (hq : q.size ≤ 65536) (h2 : (esc2 (bl s) (bl q)).length ≤ 70368744177664) (hr : (escL (bl s) (bl q)).length ≤ 70368744177664) :
    Calls Tryd.prog 18 #[.string s, .string q] w fun e w' => e = .returned (.string ⟨(escL (bl s) (bl q)).toArray⟩) ∧ Below w.heap.size w w' := by
  obtain ⟨r, hre⟩ : ∃ r : ByteArray, r = ⟨(escL (bl s) (bl q)).toArray⟩ := ⟨_, rfl⟩
  have HE := Lib.hid (escape_any s q w hs hq h2 hr)
  rw [← hre] at HE ⊢
  clear hr h2 hre
  go_enter Tryd.func18, Tryd.ntmps18
  go_wp2_with fail
  refine HE.out.mono ?_
  rintro e w1 ⟨rfl, hb1⟩
  go_wp2
  go_ret
  exact ⟨rfl, hb1⟩

theorem own_iter {w w' : World} {base e size n K pos : Nat} {v : Value} {xs : List Value} {s : ByteArray} (h : w.ownsRow base e size v n xs) (hit : w.heap[K]? = some (.stringIter s pos)) (ho : ∀ j, j ≠ K → w'.heap[j]? = w.heap[j]?) : w'.ownsRow base e size v n xs := by
  obtain ⟨h1, h2⟩ := h
  refine ⟨h1, ?_⟩
  rcases h2 with h2 | ⟨g, cap, cur, hv, hg, hh, r⟩
  · exact Or.inl h2
  · exact Or.inr ⟨g, cap, cur, hv, hg, by rw [ho g (by intro e; subst e; rw [hit] at hh; cases hh)]; exact hh, r⟩
theorem OutRel.iter {w w' : World} {base TC TI K pos : Nat} {v : Value} {l : List (Int × List Int)} {s : ByteArray} (h : OutRel w base TC TI v l) (hit : w.heap[K]? = some (.stringIter s pos)) (ho : ∀ j, j ≠ K → w'.heap[j]? = w.heap[j]?) : OutRel w' base TC TI v l := by
  obtain ⟨xs, h1, h2⟩ := h
  refine ⟨xs, own_iter h1 hit ho, fun k r cs hk => ?_⟩
  obtain ⟨u, a, b, d⟩ := h2 k r cs hk
  exact ⟨u, a, b, own_iter d hit ho⟩
theorem own_notIter {w : World} {base e size n K pos : Nat} {v : Value} {xs : List Value} {s : ByteArray} (h : w.ownsRow base e size v n xs) (hit : w.heap[K]? = some (.stringIter s pos)) : some K ≠ v.ownBlock := by
  rcases h.2 with ⟨rfl, _⟩ | ⟨g, cap, cur, rfl, _, hh, _⟩
  · simp [Value.ownBlock]
  · intro he
    have : K = g := by simpa [Value.ownBlock] using he
    subst this
    rw [hit] at hh
    cases hh
theorem OwnInts.one (w : World) (x : Int) : OwnInts (w.alloc (.cells #[.int .i64 x] 3)) 3 (.slice (some ⟨w.heap.size, 0, none⟩) 1 1) [x] :=
  ⟨rfl, Or.inr ⟨w.heap.size, 1, #[.int .i64 x], rfl, Nat.zero_le _, heap_alloc_new w _, Nat.le_refl _, by unfold maxLen; omega, rfl, rfl⟩⟩

def noCodes : List Piece → Bool
  | [] => false
  | p :: _ => p.codes.isEmpty
theorem escOn_step {c : Int} {on codes : List Int} {j : Nat} {y : Int} (h : codes[j]? = some y) : escOn c on (codes.drop j) = escOn c (if y = 0 then [c] else withC on y) (codes.drop (j + 1)) := by
  rw [drop_step h]; rfl

set_option maxRecDepth 100000 in
set_option maxHeartbeats 8000000 in
theorem escaped_any (A : Option Addr) (n c : Nat) (l : List Piece) (x : Int) (w : World) (h : PiecesAt w w.heap.size A n c l) (hl : l.length ≤ 40) (hg : ∀ s ∈ l, s.text.size ≤ 500 ∧ s.codes.length ≤ 4) :
    Calls Tryd.prog 20 #[.slice A n c, .int .i64 x] w fun e w' => ∃ A' n' c', e = .returned (.slice A' n' c') ∧ CellsAt w' w'.heap.size A' n' c' (escCells x l (escFirst x l)) ∧ Below w.heap.size w w' := by
  obtain ⟨i0, hi, hz0, hz1, hz2⟩ := info_parts infoCell
  have HL := Lib.hid h.len
  have HG := Lib.hid hg
  have hn : n ≤ 40 := by rw [← h.len]; exact hl
  have hFL : (escFirst x l).length ≤ 1 := by unfold escFirst; split <;> (try split) <;> simp
  obtain ⟨fb, hfb⟩ : ∃ fb : Bool, fb = noCodes l := ⟨_, rfl⟩
  have HF := Lib.hid (show escFirst x l = if fb = true then [x] else [] by
    rw [hfb]
    cases l with
    | nil => rfl
    | cons p r =>
      show (if p.codes = [] then [x] else []) = if p.codes.isEmpty = true then [x] else []
      cases p.codes <;> simp)
  have HFB := Lib.hid hfb
  clear hg hl hfb
  go_enter Tryd.func20, Tryd.ntmps20
  go_upto_region 3 with (fail)
  go_cut [23] (fun v23 wx => v23 = .bool fb ∧ w = wx)
  case first =>
    by_cases h0 : n = 0
    · have hfb0 : fb = false := by
        rw [HFB.out]
        rw [List.eq_nil_of_length_eq_zero (l := l) (by rw [HL.out]; exact h0)]
        rfl
      subst h0
      go_wp2_with fail
      go_meet
      exact ⟨by rw [hfb0], rfl⟩
    · have hn0 : 0 < n := by omega
      have hn0i : (0 : Int) < (n : Int) := by omega
      obtain ⟨ad, p, A', n', c', rfl, _, hy, hc0, hc1, hst⟩ := h.at_ hn0
      have hA0 : ad.add (0 * 2) = ad := by simp [Addr.add]
      rw [hA0] at hc0
      have hfb1 : fb = p.codes.isEmpty := by
        rw [HFB.out]
        cases l with
        | nil => simp at hy
        | cons q r => simp at hy; rw [hy]; rfl
      by_cases hz : n' = 0
      · have hfb2 : fb = true := by rw [hfb1, List.eq_nil_of_length_eq_zero (l := p.codes) (by rw [hst.len]; exact hz)]; rfl
        subst hz
        clear hy hst hfb1
        go_wp2_with fail
        go_meet
        exact ⟨by rw [hfb2], rfl⟩
      · have hnz : ((n' : Int) == 0) = false := by rw [beq_eq_false_iff_ne]; omega
        have hfb2 : fb = false := by
          rw [hfb1]
          cases hpc : p.codes with
          | nil => have := hst.len; rw [hpc] at this; simp at this; omega
          | cons a b => rfl
        clear hy hst hfb1
        go_wp2_with fail
        go_meet
        exact ⟨by rw [hfb2], rfl⟩
  case rest =>
  obtain ⟨rfl, rfl⟩ := hcut
  go_upto_if 23 with (fail)
  go_cut [6] (fun v6 wx => OwnInts wx 3 v6 (escFirst x l) ∧ Below w.heap.size w wx)
  case first =>
    cases fb with
    | true =>
      go_wp2_with fail
      go_meet
      refine ⟨?_, (Below.refl _ _).alloc (Nat.le_refl _) _⟩
      rw [HF.out]
      exact OwnInts.one _ x
    | false =>
      go_wp2_with fail
      go_meet
      refine ⟨?_, Below.refl _ _⟩
      rw [HF.out]
      exact OwnInts.nil _ _
  case rest =>
    obtain ⟨hon0, hb0⟩ := hcut
    obtain ⟨w0, rfl⟩ : ∃ y : World, y = wc := ⟨_, rfl⟩
    have hsz0 := hb0.size
    go_wp2_with fail
    go_loopw [5, 6, 28] (fun v5 v6 v28 wr => ∃ (k : Nat) (cells : List (Int × List Int)) (on : List Int), k ≤ n ∧ v28 = .int .i64 k ∧ OutRel wr w.heap.size 91 3 v5 cells ∧ OwnInts wr 3 v6 on ∧ Below w.heap.size w wr ∧ Hid (escCells x l (escFirst x l) = cells ++ escCells x (l.drop k) on) ∧ cells.length ≤ 500 * k ∧ on.length ≤ 5 * k + 1) (fun _ _ v28 _ => n - (intOf v28).toNat)
    case atStart => exact ⟨0, [], escFirst x l, Nat.zero_le _, rfl, OutRel.nil _ _ _ _, hon0, hb0, Lib.hid rfl, by simp, by omega⟩
    case round =>
      obtain ⟨k, cells, on, hk, rfl, hout, hon, hbw, HA, hcl, hol⟩ := hrel
      clear hon0 hb0 hsz0
      have hsz := hbw.size
      by_cases hlt : k < n
      · obtain ⟨ad, p, A', n', c', hAe, _, hy, hc0, hc1, hst⟩ := (h.below hbw).at_ hlt
        have HAE := Lib.hid hAe
        have hk1 : (k : Int) < (n : Int) := by omega
        have HY := Lib.hid hy
        have hgp := HG.out p (List.mem_of_getElem? hy)
        have hts := hgp.1
        have hn' : n' ≤ 4 := by rw [← hst.len]; exact hgp.2
        have HLC := Lib.hid hst.len
        have hb1 := (Below.refl wr.heap.size wr).alloc (Nat.le_refl _) (.cells #[.slice A' n' c', .string p.text] 81)
        have hst2 := (hst.more hsz).below hb1
        have hout2 := hout.below hb1 (Nat.le_refl _)
        have hon2 := hon.below hb1 (Nat.le_refl _)
        have hq1 := box_cell2 wr #[.slice A' n' c', .string p.text] 81 1
        have hq0 := box_cell2 wr #[.slice A' n' c', .string p.text] 81 0
        obtain ⟨wa, rfl⟩ : ∃ y : World, y = wr := ⟨_, rfl⟩
        subst hAe
        clear hy hgp hst hout hon
        go_wp2_with fail
        obtain ⟨wo, hwo⟩ : ∃ wo, wo = wa.alloc (.cells #[.slice A' n' c', .string p.text] 81) := ⟨_, rfl⟩
        rw [← hwo] at hb1 hst2 hout2 hon2 hq0 hq1 ⊢
        have hszo : wa.heap.size + 1 ≤ wo.heap.size := by rw [hwo]; simp
        clear hwo
        go_loopw [6, 35] (fun v6 v35 wv => ∃ (j : Nat) (on' : List Int), j ≤ n' ∧ v35 = .int .i64 j ∧ OwnInts wv 3 v6 on' ∧ Below wo.heap.size wo wv ∧ Hid (escOn x on p.codes = escOn x on' (p.codes.drop j)) ∧ on'.length ≤ on.length + j) (fun _ v35 _ => n' - (intOf v35).toNat)
        case atStart => exact ⟨0, on, Nat.zero_le _, rfl, hon2, Below.refl _ _, Lib.hid rfl, by omega⟩
        case round =>
          obtain ⟨j, on', hj, rfl, honj, hbj, HJ, hojl⟩ := hrel
          clear hon2
          have hszj := hbj.size
          by_cases hlt2 : j < n'
          · obtain ⟨ad2, y, rfl, _, hy2, hcy⟩ := (hst2.below (hbj.mono (by omega))).at_ hlt2
            have HY2 := Lib.hid hy2
            have hji : (j : Int) < (n' : Int) := by omega
            have hwl := withC_len on' y
            clear hy2
            by_cases hy0 : y = 0
            · have hyb : (y == 0) = true := by rw [hy0]; rfl
              have HSJ := Lib.hid (show escOn x on p.codes = escOn x [x] (p.codes.drop (j + 1)) by rw [HJ.out, escOn_step HY2.out, if_pos hy0])
              clear hy0
              go_wp2_with fail
              refine (with_any _ on' y _ (by omega) honj).mono ?_
              rintro e w2 ⟨v', rfl, hon3, hb2⟩
              have hb3 := (hbj.trans (hb2.mono hszj)).alloc (o := .cells #[.int .i64 x] 3) (by have := hb2.size; omega)
              have hone := OwnInts.one w2 x
              clear honj hbj hb2 hon3
              go_wp2
              go_roundw
              case rel => exact ⟨j + 1, [x], by omega, by go_num, hone, hb3, HSJ, by simp; omega⟩
              case measure => simp [intOf]; omega
            · have hyb : (y == 0) = false := by rw [beq_eq_false_iff_ne]; exact hy0
              have HSJ := Lib.hid (show escOn x on p.codes = escOn x (withC on' y) (p.codes.drop (j + 1)) by rw [HJ.out, escOn_step HY2.out, if_neg hy0])
              clear hy0
              go_wp2_with fail
              refine (with_any _ on' y _ (by omega) honj).mono ?_
              rintro e w2 ⟨v', rfl, hon3, hb2⟩
              have hb3 := hbj.trans (hb2.mono hszj)
              clear honj hbj hb2
              go_wp2
              go_roundw
              case rel => exact ⟨j + 1, withC on' y, by omega, by go_num, hon3, hb3, HSJ, by omega⟩
              case measure => simp [intOf]; omega
          · have HON := Lib.hid (show escOn x on p.codes = on' by rw [HJ.out, List.drop_of_length_le (by rw [HLC.out]; omega)]; rfl)
            have hq1j := (hbj.cell (p := ⟨wa.heap.size, 1, none⟩) (by simp; omega)).trans hq1
            have houtj := hout2.below hbj (Nat.le_refl _)
            have hbwj : Below w.heap.size w wr := (hbw.trans (hb1.mono (by omega))).trans (hbj.mono (by omega))
            have HSTEP := Lib.hid (show escCells x l (escFirst x l) = cells ++ ((runes p.text).map (fun r => (r, on')) ++ escCells x (l.drop (k + 1)) on') by
              rw [HA.out, drop_step HY.out, escCells, HON.out])
            clear hout2 hbj hst2 hq0 hq1 hbw hb1
            obtain ⟨A6, c6, hv6, hr6⟩ := honj.rd
            subst hv6
            obtain ⟨wb, rfl⟩ : ∃ y : World, y = wr := ⟨_, rfl⟩
            have hwbs : w.heap.size ≤ wb.heap.size := hbwj.size
            have hoI := houtj.below ((Below.refl _ wb).alloc (Nat.le_refl _) (.stringIter p.text 0)) (Nat.le_refl _)
            have hnI := honj.below ((Below.refl _ wb).alloc (Nat.le_refl _) (.stringIter p.text 0)) (Nat.le_refl _)
            have hbI := hbwj.alloc hbwj.size (.stringIter p.text 0)
            have hol2 : on'.length ≤ 5 * k + 1 + 4 := by omega
            clear houtj honj hbwj hr6
            go_wp2_with fail
            go_loopw [5] (fun v5 wv => ∃ (pos : Nat) (cells' : List (Int × List Int)), wv.heap[wb.heap.size]? = some (.stringIter p.text pos) ∧ OutRel wv w.heap.size 91 3 v5 cells' ∧ OwnInts wv 3 (.slice A6 on'.length c6) on' ∧ Below w.heap.size w wv ∧ Hid (cells ++ (runes p.text).map (fun r => (r, on')) = cells' ++ (runesFrom p.text pos).map (fun r => (r, on'))) ∧ cells'.length ≤ cells.length + pos ∧ pos ≤ p.text.size ∧ wb.heap.size + 1 ≤ wv.heap.size) (fun _ wv => p.text.size - wv.iterPos wb.heap.size)
            case atStart => exact ⟨0, cells, World.iter_heap wb p.text 0, hoI, hnI, hbI, Lib.hid rfl, by omega, by omega, by show wb.heap.size + 1 ≤ (wb.alloc _).heap.size; simp⟩
            case round =>
              obtain ⟨pos, cells', hit, houtp, honp, hbp, HP, hcp, hpp, hKs⟩ := hrel
              clear hoI hnI hbI
              by_cases hp : pos < p.text.size
              · obtain ⟨r, pos2, wr2, hr, h0, h1, hlt3, hle, hit2, hbw2, hszI, hoth, hnx⟩ := iter_next (P := Tryd.prog) hit hp hbp hwbs
                obtain ⟨xs, ho1, ho2⟩ := houtp.iter hit hoth
                have hon3 : OwnInts wr2 3 (.slice A6 on'.length c6) on' := own_iter honp hit hoth
                have HO2 := Lib.hid ho2
                have HR := Lib.hid hr
                have HS := Lib.hid hszI
                have hnot := own_notIter ho1 hit2
                have hKs2 : wb.heap.size + 1 ≤ wr2.heap.size := by rw [hszI]; exact hKs
                clear hr ho2 houtp honp hbp hoth hszI
                go_wp2_with (at_builtin; go_loud (refine wpList_append_own _ rfl _ _ 24 rfl w.heap.size 91 i0 (.agg #[.int .i32 0, .slice none 0 0]) 2 32 Tryd.underlying24 hi hz0 hz1 hz2 rfl (by decide) _ _ _ rfl (ho1.alloc _) ⟨wr2.heap.size, 0, none⟩ 1 1 [.int .i32 r, .slice A6 on'.length c6] rfl rfl ?c1 ?c2 ?c3 ?c4 ?c5 ?_))
                case c1 => exact cell_two _ _ _ _
                case c2 => intro u hu; simp at hu; rcases hu with rfl | rfl <;> rfl
                case c3 => unfold maxLen; omega
                case c4 => omega
                case c5 => simp; omega
                intro v' w3 hown' hgrow _
                obtain ⟨hout3, hon4⟩ := OutRel.snoc (by decide) ho1 HO2.out hon3 hown' hgrow
                have hsz3 := hgrow.size
                have hit3 : w3.heap[wb.heap.size]? = some (.stringIter p.text pos2) := by
                  rw [hgrow.block _ (by simp; omega) hnot, Below.heap_alloc _ _ _ (by omega)]
                  exact hit2
                have hbw3 : Below w.heap.size w w3 := (hbw2.alloc (by omega) _).grown hgrow (by simp; omega) (fun k hk => (World.ownsRow.lt ho1 _ hk).1)
                have HM := Lib.hid (show p.text.size - w3.iterPos wb.heap.size < p.text.size - wr.iterPos wb.heap.size by have e1 := iterPos_of hit; have e2 := iterPos_of hit3; omega)
                have hKs3 : wb.heap.size + 1 ≤ w3.heap.size := by have : (wr2.alloc (.cells #[.int .i32 r, .slice A6 on'.length c6] 91)).heap.size = wr2.heap.size + 1 := by simp
                                                                  omega
                clear hgrow hown' ho1 hbw2 hit2 hsz3 hit hon3 hnot
                go_wp2
                go_roundw
                case rel => exact ⟨pos2, cells' ++ [(r, on')], hit3, hout3, hon4, hbw3, Lib.hid (by rw [HP.out, HR.out, List.map_cons, List.append_assoc]; rfl), by simp; omega, by omega, hKs3⟩
                case measure => exact HM.out
              · have hnx : ∀ ty, (Instr.next (.pointer (some ⟨wb.heap.size, 0, none⟩)) true ty).run Tryd.prog wr = _ := fun ty => Lib.run_next_end_at wr wb.heap.size p.text pos ty hit hp
                have HE2 := Lib.hid (show escCells x l (escFirst x l) = cells' ++ escCells x (l.drop (k + 1)) on' by
                  rw [HSTEP.out, ← List.append_assoc, HP.out, runesFrom_end hp, List.map_nil, List.append_nil])
                go_wp2
                go_roundw
                case rel => exact ⟨k + 1, cells', on', by omega, by go_num, houtp, honp, hbp, HE2, by omega, by omega⟩
                case measure => simp [intOf]; omega
      · have e : escCells x l (escFirst x l) = cells := by rw [HA.out, List.drop_of_length_le (by rw [HL.out]; omega), escCells, List.append_nil]
        have HE := Lib.hid e
        clear e
        obtain ⟨A5, c5, rfl, hr5⟩ := hout.rd
        go_wp2
        go_ret
        refine ⟨A5, _, c5, rfl, ?_, hbw⟩
        rw [HE.out]
        exact hr5
end Go.Proofs.YtaebdgjebdjlaaaDoor
