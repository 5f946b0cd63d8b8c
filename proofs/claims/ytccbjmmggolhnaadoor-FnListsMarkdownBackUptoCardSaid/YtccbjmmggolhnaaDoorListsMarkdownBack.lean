/- Walk of laws.FnListsMarkdownBack: it answers true and writes nothing that was there. One condition: the list is small enough to be played. -/
import Derived.Test.YtccbjmmggolhnaaDoorLt
import Derived.Test.YtccbjmmggolhnaaDoorLtSize
import Derived.Test.YtccbjmmggolhnaaDoorListMd
import Derived.Deep.RegionHeld3
import Derived.Deep.QuietTactic
import Derived.BigQuiet
import Derived.StillTailTactics
namespace Go.Proofs.YtccbjmmggolhnaaDoor
open Go.RowKit
set_option linter.unusedVariables false

theorem flatI_at {l : List (ByteArray × Nat)} : ∀ {k : Nat} {x : ByteArray × Nat}, l[k]? = some x → (flatI l)[2 * k]? = some (.string x.1) ∧ (flatI l)[2 * k + 1]? = some (.int .i64 x.2) := by
  induction l with
  | nil => intro k x h; simp at h
  | cons y l ih =>
    intro k x h
    match k, h with
    | 0, h => simp at h; subst h; exact ⟨rfl, rfl⟩
    | k + 1, h =>
      have h2 := ih (k := k) (x := x) (by simpa using h)
      show ((.string y.1 :: .int .i64 y.2 :: flatI l : List Value))[2 * (k + 1)]? = _ ∧ ((.string y.1 :: .int .i64 y.2 :: flatI l : List Value))[2 * (k + 1) + 1]? = _
      rw [show 2 * (k + 1) = 2 * k + 1 + 1 by omega, List.getElem?_cons_succ, List.getElem?_cons_succ, List.getElem?_cons_succ, List.getElem?_cons_succ]
      exact h2
theorem OwnItems.at_ {w : World} {B : Nat} {v : Value} {l : List (ByteArray × Nat)} (h : OwnItems w B v l) : ∃ A c, v = .slice A l.length c ∧ ItemsAt w w.heap.size A l.length c l := by
  obtain ⟨A, c, hv, hr⟩ := own_rd h
  exact ⟨A, c, hv, _, hr, rfl, fun k x hx => flatI_at hx⟩
theorem starMd_facts : ∀ r ∈ runes (starSt ⟨#[32, 32]⟩ ⟨#[60, 98, 114, 47, 62]⟩).vert, r ≠ 10 ∧ wideB r = false := by
  intro r hr
  have e : runes (starSt ⟨#[32, 32]⟩ ⟨#[60, 98, 114, 47, 62]⟩).vert = [32, 32] := by
    show runes ⟨[32, 32].toArray⟩ = _
    rw [runes_mk [32, 32] (by decide)]
    rfl
  rw [e] at hr
  simp at hr
  subst hr
  decide
theorem starMd_small : styleSmall (starSt ⟨#[32, 32]⟩ ⟨#[60, 98, 114, 47, 62]⟩) := ⟨rfl, by decide, by decide, by decide, by decide, by decide, by decide, by decide, by decide⟩
theorem md_same {l : List Step} (hr : rightB l = true) : drawnT (starSt ⟨#[32, 32]⟩ ⟨#[60, 98, 114, 47, 62]⟩) (played l) = drawD mdStyle (played l) := by
  rw [drawn_eq starMd_facts (Or.inr (by decide)) (right_simple hr)]
  rfl
theorem starMd_ok : OkStyle (starSt ⟨#[32, 32]⟩ ⟨#[60, 98, 114, 47, 62]⟩) := by
  have s1 : okL [42] := ⟨goodL_ascii (by intro b hb; simp at hb; subst hb; decide), by intro b hb; simp at hb; subst hb; decide⟩
  have s2 : okL [32, 32] := ⟨goodL_ascii (by intro b hb; simp at hb; subst hb; decide), by intro b hb; simp at hb; subst hb; decide⟩
  have s3 : okL [60, 98, 114, 47, 62] := ⟨goodL_ascii (by intro b hb; simp at hb; rcases hb with rfl | rfl | rfl | rfl | rfl <;> decide), by intro b hb; simp at hb; rcases hb with rfl | rfl | rfl | rfl | rfl <;> decide⟩
  exact ⟨s1, s1, s1, s1, s2, s1, s2, Or.inr s3⟩
/-- A line of the drawing in Markdown. -/
def mdLine (x : ByteArray × Nat) : List UInt8 := List.replicate (2 + 2 * x.2) 32 ++ ([42, 32] ++ bl x.1)
theorem mapK_one {α β : Type} (f : Nat → α → List β) (g : α → β) : ∀ (l : List α) (k : Nat), (∀ i, ∀ x ∈ l, f i x = [g x]) → (mapK f k l).flatten = l.map g
  | [], _, _ => rfl
  | x :: l, k, h => by
    rw [mapK, List.flatten_cons, h k x (by simp), mapK_one f g l (k + 1) (fun i y hy => h i y (by simp [hy]))]
    rfl
theorem flat_two : ∀ n : Nat, (List.range n).flatMap (fun _ => ([32, 32] : List UInt8)) = List.replicate (2 * n) 32
  | 0 => rfl
  | n + 1 => by
    rw [List.range_succ, List.flatMap_append, flat_two n, show 2 * (n + 1) = 2 * n + 2 by omega, ← List.replicate_append_replicate]
    rfl
theorem starMd_link (items : List (ByteArray × Nat)) (i lv : Nat) : linkT (starSt ⟨#[32, 32]⟩ ⟨#[60, 98, 114, 47, 62]⟩) items i lv = [32, 32] := by
  have e : runes (starSt ⟨#[32, 32]⟩ ⟨#[60, 98, 114, 47, 62]⟩).vert = [32, 32] := by
    show runes ⟨[32, 32].toArray⟩ = _
    rw [runes_mk [32, 32] (by decide)]
    rfl
  unfold linkT spacesT
  rw [width_count _ starMd_facts, e]
  split <;> rfl
theorem md_lines {items : List (ByteArray × Nat)} (h : ∀ x ∈ items, simpleB x.1 false = true) : allT (starSt ⟨#[32, 32]⟩ ⟨#[60, 98, 114, 47, 62]⟩) items = items.map mdLine := by
  unfold allT
  refine mapK_one _ _ _ _ (fun i x hx => ?_)
  have hs := h x hx
  have ht : textsT (starSt ⟨#[32, 32]⟩ ⟨#[60, 98, 114, 47, 62]⟩) x.1 = [bl x.1] := by
    unfold textsT
    rw [if_pos (by decide), lines_split (simple_enc hs), splitL_one (no10_of hs)]
    simp [joinT, mapCat]
  unfold linesT
  rw [ht]
  show [lineT _ items i x.2 0 (bl x.1)] = _
  congr 1
  unfold lineT aheadT mdLine
  rw [show linkT (starSt ⟨#[32, 32]⟩ ⟨#[60, 98, 114, 47, 62]⟩) items i = fun _ => [32, 32] from funext fun lv => starMd_link items i lv, flat_two, if_pos rfl, ← List.replicate_append_replicate]
  have hb : ∀ (m f : Bool), bl (bulletT (starSt ⟨#[32, 32]⟩ ⟨#[60, 98, 114, 47, 62]⟩) i m f) = [42] := by
    intro m f
    unfold bulletT starSt
    repeat' split
    all_goals rfl
  rw [hb]
  rfl
theorem mdLine_len (x : ByteArray × Nat) : (mdLine x).length = 4 + 2 * x.2 + x.1.size := by
  unfold mdLine
  rw [List.length_append, List.length_append, List.length_replicate, bl_size]
  simp only [List.length_cons, List.length_nil]
  omega
theorem mdLine_blank (x : ByteArray × Nat) {j : Nat} (h : j < 2 + 2 * x.2) : (mdLine x)[j]? = some 32 := by
  unfold mdLine
  rw [List.getElem?_append_left (by rw [List.length_replicate]; exact h), List.getElem?_replicate, if_pos h]
theorem mdLine_star (x : ByteArray × Nat) : (mdLine x)[2 + 2 * x.2]? = some 42 := by
  unfold mdLine
  rw [List.getElem?_append_right (by rw [List.length_replicate]; exact Nat.le_refl _), List.length_replicate, Nat.sub_self]
  rfl
theorem mdLine_drop (x : ByteArray × Nat) : (mdLine x).drop (2 + 2 * x.2) = [42, 32] ++ bl x.1 := by
  unfold mdLine
  rw [List.drop_append, List.length_replicate, Nat.sub_self, List.drop_of_length_le (by rw [List.length_replicate]; exact Nat.le_refl _)]
  rfl

theorem begin_star {rb tx : ByteArray} (h : bl rb = [42, 32] ++ bl tx) : (rb.extract 0 2).toList = [42, 32] ∧ rb.extract 2 rb.size = tx := by
  constructor
  · rw [Lib.toList_data]
    have e : bl (rb.extract 0 2) = (bl rb).take 2 := by rw [bl, Lib.extract_data]; simp
    exact e.trans (by rw [h]; rfl)
  · apply bl_ext
    have e : bl (rb.extract 2 rb.size) = (bl rb).drop 2 := Lib.extract_to_end rb 2
    rw [e, h]
    rfl
set_option maxRecDepth 100000 in
set_option maxHeartbeats 4000000 in
theorem begins_any (t p : ByteArray) (w : World) (hp : (t.extract 0 p.size).toList = p.toList) (hz : p.size ≤ t.size) (ht : t.size ≤ 1000000000) :
    Calls Tryd.prog 34 #[.string t, .string p] w fun e w' => e = .returned (.tuple #[.string (t.extract p.size t.size), .bool true]) ∧ Below w.heap.size w w' := by
  have h1 : ¬ ((t.size : Int) < (p.size : Int)) := by omega
  have h2 : (p.size : Int) ≤ (t.size : Int) := by omega
  have h3 : (0 : Int) ≤ (p.size : Int) := by omega
  have hq : ((t.extract 0 p.size).toList == p.toList) = true := by rw [hp]; simp
  clear hp
  go_enter Tryd.func34, Tryd.ntmps34
  go_wp2
  go_ret2
  exact ⟨rfl, by first | exact Below.refl _ _ | exact below_drewN (Below.refl _ _) _⟩
theorem begins_star (rb tx : ByteArray) (w : World) (h : bl rb = [42, 32] ++ bl tx) (ht : tx.size ≤ 1000000) :
    Calls Tryd.prog 34 #[.string rb, .string ⟨#[42, 32]⟩] w fun e w' => e = .returned (.tuple #[.string tx, .bool true]) ∧ Below w.heap.size w w' := by
  obtain ⟨e1, e2⟩ := begin_star h
  have hz : rb.size = 2 + tx.size := by rw [← bl_size, ← bl_size, h]; simp only [List.length_append, List.length_cons, List.length_nil]
  have h3 := begins_any rb ⟨#[42, 32]⟩ w (e1.trans (by decide +kernel)) (by rw [hz]; exact Nat.le_add_right _ _) (by omega)
  have e3 : rb.extract (⟨#[42, 32]⟩ : ByteArray).size rb.size = tx := e2
  rw [e3] at h3
  exact h3

set_option maxRecDepth 100000 in
set_option maxHeartbeats 4000000 in
theorem lsSame_any (A1 A2 : Option Addr) (n c1 c2 : Nat) (l : List (ByteArray × Nat)) (w : World) (h1 : ItemsAt w w.heap.size A1 n c1 l) (h2 : ItemsAt w w.heap.size A2 n c2 l) :
    Calls Tryd.prog 24 #[.slice A1 n c1, .slice A2 n c2] w fun e w' => e = .returned (.bool true) ∧ Below w.heap.size w w' := by
  have hn := h1.cap
  go_enter Tryd.func24, Tryd.ntmps24
  go_wp2
  go_loopw [13] (fun v13 wr => ∃ k : Nat, k ≤ n ∧ v13 = .int .i64 k ∧ Below w.heap.size w wr) (fun v13 _ => n - (intOf v13).toNat)
  case atStart => exact ⟨0, Nat.zero_le _, rfl, Below.refl _ _⟩
  case round =>
    obtain ⟨k, hk, rfl, hbw⟩ := hrel
    by_cases hlt : k < n
    · obtain ⟨a1, y, rfl, _, hy, hc1, hd1⟩ := (h1.below hbw).at_ hlt
      obtain ⟨a2, z, rfl, _, hz, hc2, hd2⟩ := (h2.below hbw).at_ hlt
      have hyz : z = y := by rw [hz] at hy; injection hy
      subst hyz
      have hki : (k : Int) < (n : Int) := by omega
      clear hy hz h1 h2
      go_wp2
      go_quiet (fail)
      go_wp2
      go_roundw
      case rel => exact ⟨k + 1, by omega, by go_num, below_drewN hbw _⟩
      case measure => simp [intOf]; omega
    · have hki : ¬ (k : Int) < (n : Int) := by omega
      go_wp2
      go_ret
      exact ⟨rfl, hbw⟩
theorem byte_at {s : ByteArray} {j : Nat} {b : UInt8} (h : (bl s)[j]? = some b) : ∃ hj : j < s.size, s[j] = b := by
  obtain ⟨h1, h2⟩ := List.getElem?_eq_some_iff.1 h
  exact ⟨by rw [← bl_size]; exact h1, by rw [← h2]; rfl⟩

set_option maxRecDepth 100000 in
set_option maxHeartbeats 8000000 in
theorem mdBack_any (s : ByteArray) (items : List (ByteArray × Nat)) (w : World) (hs : s.size ≤ 1000000000) (hL : linesL (runes s) = items.map mdLine) (hn : items.length ≤ 880) (hit : ∀ x ∈ items, x.1.size ≤ 200 ∧ x.2 ≤ 80) :
    Calls Tryd.prog 22 #[.string s] w fun e w' => ∃ v, e = .returned (.tuple #[v, .bool true]) ∧ (∃ B, OwnItems w' B v items) ∧ Below w.heap.size w w' := by
  obtain ⟨i0, hi, hz0, hz1, hz2⟩ := info_parts infoItem
  have HL := Lib.hid hL
  have HIT := Lib.hid hit
  obtain ⟨n, hnn⟩ : ∃ n, n = items.length := ⟨_, rfl⟩
  rw [← hnn] at hn
  have HN := Lib.hid hnn
  clear hL hit hnn
  go_enter Tryd.func22, Tryd.ntmps22
  go_wp2_with fail
  refine (lines_any s _ hs).mono ?_
  rintro e w1 ⟨v11, rfl, hown11, hb1⟩
  rw [HL.out] at hown11
  obtain ⟨A1, c1, rfl, hst⟩ := hown11.rd
  rw [List.length_map, ← HN.out] at hst ⊢
  clear hown11
  go_wp2_with fail
  go_loopw [4, 13] (fun v4 v13 wr => ∃ k : Nat, k ≤ n ∧ v13 = .int .i64 k ∧ wr.ownsRow w1.heap.size 31 2 v4 k (flatI (items.take k)) ∧ Below w1.heap.size w1 wr) (fun _ v13 _ => n - (intOf v13).toNat)
  case atStart => exact ⟨0, Nat.zero_le _, rfl, World.ownsRow_nil _ _ _ _, Below.refl _ _⟩
  case round =>
    obtain ⟨k, hk, rfl, hown, hbw⟩ := hrel
    have hsz := hbw.size
    by_cases hlt : k < n
    · obtain ⟨ad, y, rfl, _, hy, hcy⟩ := line_at (StrsAt.below hst hbw) hlt
      obtain ⟨x, hx⟩ : ∃ x, items[k]? = some x := ⟨_, List.getElem?_eq_getElem (by rw [← HN.out]; exact hlt)⟩
      have hyx : y = mdLine x := by rw [List.getElem?_map, hx] at hy; injection hy with hy; exact hy.symm
      have hxb := HIT.out x (List.mem_of_getElem? hx)
      have HX := Lib.hid hx
      obtain ⟨tx, lv⟩ := x
      dsimp only at hxb
      obtain ⟨yb, hyb⟩ : ∃ yb, yb = mkB y := ⟨_, rfl⟩
      rw [← hyb] at hcy
      have hybl : bl yb = mdLine (tx, lv) := by rw [hyb, ← hyx]; rfl
      have hybz : yb.size = 4 + 2 * lv + tx.size := by rw [← bl_size, hybl]; exact mdLine_len (tx, lv)
      have HY := Lib.hid hybl
      have hki : (k : Int) < (n : Int) := by omega
      clear hy hx hyx hyb hybl
      go_wp2_with fail
      go_loop [7] (fun v7 => ∃ j : Nat, j ≤ 2 + 2 * lv ∧ v7 = .int .i64 j) (fun v7 => 2 + 2 * lv - (intOf v7).toNat)
      case atStart => exact ⟨0, Nat.zero_le _, rfl⟩
      case round =>
        obtain ⟨j, hj, rfl⟩ := hrel
        by_cases hjl : j < 2 + 2 * lv
        · have hji : (j : Int) < 4 + 2 * (lv : Int) + (tx.size : Int) := by omega
          obtain ⟨hj0, hb⟩ := byte_at (s := yb) (j := j) (b := 32) (by rw [HY.out]; exact mdLine_blank (tx, lv) hjl)
          have hbt : ((yb[j].toNat : Int) == 32) = true := by rw [hb]; rfl
          clear hb
          go_wp2
          go_round
          case rel => exact ⟨j + 1, by omega, by go_num⟩
          case measure => simp [intOf]; omega
        · have hjs : j = 2 + 2 * lv := by omega
          subst hjs
          have hji : ((2 + 2 * lv : Nat) : Int) < 4 + 2 * (lv : Int) + (tx.size : Int) := by omega
          obtain ⟨hj0, hb⟩ := byte_at (s := yb) (j := 2 + 2 * lv) (b := 42) (by rw [HY.out]; exact mdLine_star (tx, lv))
          have hbt : ((yb[2 + 2 * lv].toNat : Int) == 32) = false := by rw [hb]; rfl
          clear hb
          have hrb : bl (yb.extract (2 + 2 * lv) (4 + 2 * lv + tx.size)) = [42, 32] ++ bl tx := by
            rw [← hybz]
            have e : bl (yb.extract (2 + 2 * lv) yb.size) = (bl yb).drop (2 + 2 * lv) := Lib.extract_to_end yb _
            rw [e, HY.out]
            exact mdLine_drop (tx, lv)
          have hq1 : ¬ (2 + 2 * (lv : Int) < 2) := by omega
          have hq2 : ((2 + 2 * (lv : Int)) % 2 == 1) = false := by rw [beq_eq_false_iff_ne]; omega
          go_wp2_with fail
          refine (begins_star _ tx _ hrb (by omega)).mono ?_
          rintro e w2 ⟨rfl, hb2⟩
          have hbX := hbw.trans (hb2.mono hsz)
          have hownX : w2.ownsRow w1.heap.size 31 2 u4 k (flatI (items.take k)) := own_below hown hb2 (Nat.le_refl _)
          clear hown hb2 hbw hbt hrb
          go_wp2_with (at_builtin; go_loud (refine wpList_append_own _ rfl _ _ 28 rfl w1.heap.size 31 i0 (.agg #[.string ⟨#[]⟩, .int .i64 0]) 2 24 Tryd.underlying28 hi hz0 hz1 hz2 rfl (by decide) _ _ _ rfl (hownX.alloc _) ⟨_, 0, none⟩ 1 1 [.string tx, .int .i64 _] rfl rfl (cell_two_at _ _ _ _ _ (by simp)) (pair_one _ _) (by unfold maxLen; omega) (by omega) (by have := hbX.size; simp; omega) ?_))
          intro v' w3 hown' hgrow _
          have hb3 : Below w1.heap.size w1 w3 := (hbX.alloc hbX.size _).grown hgrow (by have := hbX.size; simp; omega) (fun j hj => (World.ownsRow.lt hownX _ hj).1)
          have hlv : (2 + 2 * (lv : Int)) / 2 - 1 = (lv : Int) := by omega
          rw [hlv] at hown'
          have hown2 : w3.ownsRow w1.heap.size 31 2 v' (k + 1) (flatI (items.take (k + 1))) := by
            rw [take_step HX.out, flatI_snoc]
            exact hown'
          clear hown' hgrow hownX hbX hlv
          go_wp2
          go_roundw
          case rel => exact ⟨k + 1, by omega, by go_num, hown2, hb3⟩
          case measure => simp [intOf]; omega
    · have hki : ¬ (k : Int) < (n : Int) := by omega
      have hkn : k = n := by omega
      subst hkn
      rw [List.take_of_length_le (by rw [← HN.out]; exact Nat.le_refl _)] at hown
      have hbZ := hb1.trans (hbw.mono hb1.size)
      clear hst
      go_wp2
      go_ret2
      refine ⟨_, rfl, ⟨w1.heap.size, ?_⟩, hbZ⟩
      unfold OwnItems
      rw [← HN.out]
      exact hown

set_option maxRecDepth 100000 in
set_option maxHeartbeats 16000000 in
theorem listsMarkdownBack_any (A : Option Addr) (n c : Nat) (l : List Step) (st : StyleV) (w : World) (h : StepsAt w w.heap.size A n c l) (hnm : st.nm = ⟨#[]⟩) (hC : cost l ≤ 1099511627776) :
    Calls Tryd.prog 6 #[.slice A n c, st.arg] w fun e w' => e = .returned (.bool true) ∧ Below w.heap.size w w' := by
  unfold StyleV.arg
  have hbox := (Below.refl w.heap.size w).alloc (Nat.le_refl _) (.cells #[.int .i64 st.fmt, .string st.single, .string st.top, .string st.first, .string st.middle, .string st.vert, .string st.bottom, .string st.newline, .string st.pfx] 35)
  have h1 := (h.below hbox).more hbox.size
  have hhb : (w.alloc (.cells #[.int .i64 st.fmt, .string st.single, .string st.top, .string st.first, .string st.middle, .string st.vert, .string st.bottom, .string st.newline, .string st.pfx] 35)).heap[w.heap.size]? = some (.cells #[.int .i64 st.fmt, .string st.single, .string st.top, .string st.first, .string st.middle, .string st.vert, .string st.bottom, .string st.newline, .string st.pfx] 35 (0, 0)) := heap_alloc_new w _
  obtain ⟨w0, hw0⟩ : ∃ w0, w0 = w.alloc (.cells #[.int .i64 st.fmt, .string st.single, .string st.top, .string st.first, .string st.middle, .string st.vert, .string st.bottom, .string st.newline, .string st.pfx] 35) := ⟨_, rfl⟩
  have hlt0 : w.heap.size < w0.heap.size := by rw [hw0]; simp
  clear h
  cases hf : fitStepsB l with
  | false =>
    have HFS := Lib.hid hf
    clear hf
    go_enter Tryd.func6, Tryd.ntmps6
    go_wp2_with fail
    rw [← hw0] at hbox h1 hhb ⊢
    clear hw0
    refine (fitSteps_any A n c l _ h1).mono ?_
    rintro e w1 ⟨rfl, hb1⟩
    rw [HFS.out]
    have hb2 := hbox.trans (hb1.mono hbox.size)
    clear h1 hhb hb1
    go_wp2
    go_ret
    exact ⟨rfl, hb2⟩
  | true =>
  have HFS := Lib.hid hf
  clear hf
  have hfs := fun W => fitStyle_any st W
  unfold StyleV.arg at hfs
  obtain ⟨fb, hfb⟩ : ∃ fb, fb = fitStyleB st := ⟨_, rfl⟩
  rw [← hfb] at hfs
  have HFT := Lib.hid hfs
  clear hfs hfb
  go_enter Tryd.func6, Tryd.ntmps6
  go_wp2_with fail
  rw [← hw0] at hbox h1 hhb ⊢
  clear hw0
  refine (fitSteps_any A n c l _ h1).mono ?_
  rintro e w1 ⟨rfl, hb1⟩
  rw [HFS.out]
  have hblk1 : w1.heap[w.heap.size]? = _ := (hb1.block w.heap.size (blk_lt hhb)).trans hhb
  have k0 := blk_cell hblk1 0
  have k1 := blk_cell hblk1 1
  have k2 := blk_cell hblk1 2
  have k3 := blk_cell hblk1 3
  have k4 := blk_cell hblk1 4
  have k5 := blk_cell hblk1 5
  have k6 := blk_cell hblk1 6
  have k7 := blk_cell hblk1 7
  have k8 := blk_cell hblk1 8
  go_wp2_with fail
  refine (HFT.out _).mono ?_
  rintro e w2 ⟨rfl, hb2⟩
  have hb02 := hb1.trans (hb2.mono hb1.size)
  have hbw2 := hbox.trans (hb02.mono hbox.size)
  have h2 := (h1.below hb02).more hb02.size
  have hblk2 : w2.heap[w.heap.size]? = _ := (hb2.block w.heap.size (blk_lt hblk1)).trans hblk1
  have hlt2 : w.heap.size < w2.heap.size := blk_lt hblk2
  clear k0 k1 k2 k3 k4 k5 k6 k7 k8 hblk1 hhb h1 hb1 hb2 HFT
  cases fb with
  | false =>
    go_wp2
    go_ret
    exact ⟨rfl, hbw2⟩
  | true =>
  have hsty := fun W => styled_any st W
  unfold StyleV.arg at hsty
  have HBOX := Lib.hid (fun (W : World) (hW : Below w2.heap.size w2 W) => box9 hblk2 hlt2 hW)
  clear hblk2
  go_wp2_with fail
  refine (played_any A n c l _ h2 hC).mono ?_
  rintro e w6 ⟨v6, rfl, hown6, hb6⟩
  obtain ⟨A6, c6, rfl, hit6⟩ := hown6.at_
  have h6 := (h2.below hb6).more hb6.size
  obtain ⟨mn, hmn⟩ : ∃ mn, mn = (played l).length := ⟨_, rfl⟩
  rw [← hmn] at hit6 ⊢
  have HMN := Lib.hid hmn
  clear hmn hown6
  cases hr : rightB l with
  | false =>
    have HR := Lib.hid hr
    clear hr hit6 hsty
    go_wp2_with fail
    refine (right_any A n c l _ h6).mono ?_
    rintro e w4 ⟨rfl, hb4⟩
    rw [HR.out]
    have hbZ := hbw2.trans ((hb6.trans (hb4.mono hb6.size)).mono hbw2.size)
    go_wp2
    go_ret
    exact ⟨rfl, hbZ⟩
  | true =>
  have HR := Lib.hid hr
  have HFI := Lib.hid (Fine.of_right hr)
  go_wp2_with fail
  refine (right_any A n c l _ h6).mono ?_
  rintro e w7 ⟨rfl, hb7⟩
  rw [HR.out]
  have hb27 := hb6.trans (hb7.mono hb6.size)
  by_cases hm0 : mn = 0
  · subst hm0
    have hbZ := hbw2.trans (hb27.mono hbw2.size)
    clear hit6 h6 hr
    go_wp2
    go_ret
    exact ⟨rfl, hbZ⟩
  have hm0b : ((mn : Int) == 0) = false := by rw [beq_eq_false_iff_ne]; omega
  have HNE := Lib.hid (show played l ≠ [] by intro e; apply hm0; rw [HMN.out, e]; rfl)
  obtain ⟨k0, k1, k2, k3, k4, k5, k6, k7, k8, _⟩ := HBOX.out _ hb27
  cases hs : styledB st with
  | false =>
    rw [hs] at hsty
    have HSTY := Lib.hid hsty
    clear hsty hs hr hit6 h6
    go_wp2_with fail
    refine (HSTY.out _).mono ?_
    rintro e w5 ⟨rfl, hb5⟩
    have hbZ := hbw2.trans ((hb27.trans (hb5.mono hb27.size)).mono hbw2.size)
    clear k0 k1 k2 k3 k4 k5 k6 k7 k8
    go_wp2
    go_ret
    exact ⟨rfl, hbZ⟩
  | true =>
  have HSF := Lib.hid (styled_facts hs).1
  have HOK := Lib.hid (styled_ok hs)
  have HD2 := Lib.hid (draws_same hr hs)
  have HMD := Lib.hid (md_same hr)
  have HSI := Lib.hid (right_simple hr)
  have HT := Lib.hid (right_tight hr)
  rw [hs] at hsty
  have HSTY := Lib.hid hsty
  clear hsty hs hr h6
  go_wp2_with fail
  refine (HSTY.out _).mono ?_
  rintro e w8 ⟨rfl, hb8⟩
  have hb28 := hb27.trans (hb8.mono hb27.size)
  have hb68 := hb7.trans (hb8.mono hb7.size)
  have hit8 := (hit6.below hb68).more hb68.size
  clear k0 k1 k2 k3 k4 k5 k6 k7 k8 hb8 hb7 hb6 hb27 hb68 hit6 HSTY
  have hmb : mn ≤ 880 := by rw [HMN.out]; exact HT.out.1
  go_wp2_with fail
  go_loopw [35] (fun v35 wr => ∃ k : Nat, k ≤ mn ∧ v35 = .int .i64 k ∧ Hid (∀ x ∈ (played l).take k, simpleB x.1 false = true) ∧ Below w8.heap.size w8 wr) (fun v35 _ => mn - (intOf v35).toNat)
  case atStart => exact ⟨0, Nat.zero_le _, rfl, Lib.hid (fun x hx => by simp at hx), Below.refl _ _⟩
  case round =>
    obtain ⟨k, hk, rfl, HC, hbr⟩ := hrel
    have hszr := hbr.size
    by_cases hlt : k < mn
    · obtain ⟨ad, x, rfl, _, hx, hc0, hc1⟩ := (hit8.below hbr).at_ hlt
      have hki : (k : Int) < (mn : Int) := by omega
      have HSTEP := Lib.hid (take_step hx)
      have hb1 := hbr.alloc hszr (.cells #[.string x.1, .int .i64 x.2] 31)
      obtain ⟨tx, lx⟩ := x
      dsimp only at hc0 hc1 hb1
      cases hsm : simpleB tx false with
      | false =>
        have HSM := Lib.hid hsm
        clear hx hit8 hsm
        go_wp2_with fail
        refine (simple_any tx false _).mono ?_
        rintro e w9 ⟨rfl, hb9⟩
        rw [HSM.out]
        have hbZ := hbw2.trans ((hb28.trans ((hb1.trans (hb9.mono hb1.size)).mono hb28.size)).mono hbw2.size)
        go_wp2
        go_ret
        exact ⟨rfl, hbZ⟩
      | true =>
        have HSM := Lib.hid hsm
        clear hx hit8 hsm
        go_wp2_with fail
        refine (simple_any tx false _).mono ?_
        rintro e w9 ⟨rfl, hb9⟩
        rw [HSM.out]
        have hbX := hb1.trans (hb9.mono hb1.size)
        have HN := Lib.hid (show ∀ x ∈ (played l).take (k + 1), simpleB x.1 false = true by
          intro x hx
          rw [HSTEP.out] at hx
          rcases List.mem_append.1 hx with h | h
          · exact HC.out x h
          · rw [List.mem_singleton.1 h]; exact HSM.out)
        clear hb9 hb1 hc0 hc1 HSTEP HC
        go_wp2
        go_roundw
        case rel => exact ⟨k + 1, by omega, by go_num, HN, hbX⟩
        case measure => simp [intOf]; omega
    · have hki : ¬ (k : Int) < (mn : Int) := by omega
      have hkN : k = mn := by omega
      subst hkN
      have HALL := Lib.hid (show ∀ x ∈ played l, simpleB x.1 false = true by
        have := HC.out
        rw [List.take_of_length_le (by rw [← HMN.out]; exact Nat.le_refl _)] at this
        exact this)
      have hbW := hb28.trans (hbr.mono hb28.size)
      obtain ⟨k0, k1, k2, k3, k4, k5, k6, k7, k8, _⟩ := HBOX.out _ hbW
      have hatb := (h2.below hbW).more hbW.size
      obtain ⟨o3, ho3⟩ : ∃ o, o = mkB (drawD mdStyle (played l)) := ⟨_, rfl⟩
      have hd3 := listMd_of A n c l st wr hatb HFI.out.cost (by have := HFI.out.len; omega) HFI.out.plain HFI.out.drawn hnm
      rw [show (⟨(drawD mdStyle (played l)).toArray⟩ : ByteArray) = o3 from ho3.symm] at hd3
      unfold StyleV.arg at hd3
      have HC3 := Lib.hid hd3
      have HT3 := Lib.hid (show linesL (runes o3) = (played l).map mdLine by rw [ho3, ← HMD.out, drawn_lines starMd_ok HSI.out HNE.out]; exact md_lines HALL.out)
      have ho3z : o3.size ≤ 1000000000 := by
        rw [ho3, ← HMD.out]
        show (mkB _).size ≤ _
        rw [← bl_size]
        exact drawn_size starMd_small HR.out
      have hitW := hit8.below hbr
      clear hd3 ho3 hatb HC hit8
      go_wp2_with fail
      refine HC3.out.mono ?_
      rintro e wd ⟨rfl, hbd⟩
      have hbD := hbW.trans (hbd.mono hbW.size)
      have hitD := (hitW.more hszr).below hbd
      clear k0 k1 k2 k3 k4 k5 k6 k7 k8 HC3 hbW hitW
      go_wp2_with fail
      refine (mdBack_any o3 (played l) _ ho3z HT3.out HT.out.1 HT.out.2).mono ?_
      rintro e we ⟨ve, rfl, ⟨Be, hownE⟩, hbe⟩
      obtain ⟨Ae, ce, rfl, hitE⟩ := hownE.at_
      rw [← HMN.out] at hitE ⊢
      have hbE := hbD.trans (hbe.mono hbD.size)
      have hitF := ((hitD.more hbd.size).below hbe).more hbe.size
      have HSAME := Lib.hid (lsSame_any Ae A6 k ce c6 (played l) we hitE hitF)
      clear hownE hitE hitF hitD hbe hbd hbD hbr hszr
      go_wp2_with fail
      refine HSAME.out.mono ?_
      rintro e wf ⟨rfl, hbf⟩
      have hbZ := hbw2.trans ((hbE.trans (hbf.mono hbE.size)).mono hbw2.size)
      go_wp2
      go_ret
      exact ⟨rfl, hbZ⟩
end Go.Proofs.YtccbjmmggolhnaaDoor
