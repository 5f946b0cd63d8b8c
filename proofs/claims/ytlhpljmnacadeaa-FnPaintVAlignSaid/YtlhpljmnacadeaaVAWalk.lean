/- Walk of laws.FnPaintVAlign: it answers true and writes nothing that was there. No condition. -/
import Derived.Test.YtlhpljmnacadeaaVAlign
import Derived.Test.YtlhpljmnacadeaaStrip
import Derived.Test.YtlhpljmnacadeaaPaintWalk
import Derived.Deep.RegionHeld3
namespace Go.Proofs.Ytlhpljmnacadeaa
open Go.RowKit

/-- A line as it is printed in a color. -/
def inColor (x : Int) (s : ByteArray) : ByteArray := ⟨(paintL (bl s) (seq1L x)).toArray⟩
def lineB (s : ByteArray) : Prop := s.size ≤ 100 ∧ bl s ≠ [] ∧ simpleB s false = true

theorem simple_lines {s : ByteArray} (h : simpleB s false = true) : simpleB s true = true := by
  unfold simpleB at *
  rw [List.all_eq_true] at *
  intro r hr
  have := h r hr
  unfold okB at *
  simp at *
  exact Or.inl this
theorem inColor_eq {x : Int} {s : ByteArray} (h : lineB s) : inColor x s = ⟨(seqL [x] ++ bl s ++ RESET).toArray⟩ := by
  have h27 := simple_no27 h.2.2
  unfold inColor paintL
  rw [seq_one, if_neg (by rw [seqL, if_neg (by simp)]; simp), (esc_plain [x] (by simp) (bl s) h.2.1 h27).2]
theorem inColor_strip {x : Int} {s : ByteArray} (h : lineB s) : stripL (runes (inColor x s)) false = bl s := by
  rw [inColor_eq h]
  exact strip_painted x s (simple_runes h.2.2)
theorem inColor_size {x : Int} {s : ByteArray} (h : lineB s) (hx : 0 ≤ x ∧ x < 1000) : (inColor x s).size ≤ 1000 := by
  rw [inColor_eq h, mk_size]
  have h1 := seqL_len [x] (by intro c hc; simp at hc; subst hc; exact hx)
  have h2 := bl_size s
  have h3 := h.1
  simp [RESET] at *
  omega
theorem inColor_ne {x : Int} {s : ByteArray} (h : lineB s) : bl (inColor x s) ≠ [] := by
  rw [inColor_eq h, bl_mk]; simp [RESET]

theorem line_bounds {x : Int} {s : ByteArray} (h : lineB s) (hx : attrB x = true) : (esc2 (bl s) (seq1L x)).length ≤ 60000 ∧ (escL (bl s) (seq1L x)).length ≤ 60000 := by
  rw [seq_one]
  exact seq_bounds [x] s (by simp) (by have := h.1; omega) h.2.1 (simple_lines h.2.2) (by intro c hc; simp at hc; subst hc; exact hx)
theorem str_one (w : World) (y : ByteArray) : StrsAt (w.alloc (.cells #[.string y] 9)) (w.alloc (.cells #[.string y] 9)).heap.size (some ⟨w.heap.size, 0, none⟩) 1 1 [y] :=
  ⟨rfl, Nat.le_refl _, by omega, fun _ => ⟨_, rfl, by simp, cell_one_new _ _ _⟩⟩
theorem oneColor_any (x : Int) (y : ByteArray) (w : World) (h : lineB y) (hx : attrB x = true) :
    Calls Try.prog 17 #[.int .i64 x, .slice (some ⟨w.heap.size, 0, none⟩) 1 1] (w.alloc (.cells #[.string y] 9)) fun e w' => e = .returned (.string (inColor x y)) ∧ Below w.heap.size w w' := by
  have hb := line_bounds h hx
  have hr := attr_range hx
  refine (colorPrint_any x _ 1 1 [y] y _ (by omega) (by omega) (by simp) (by have := h.1; omega) (by omega) (by omega) (str_one w y)).mono ?_
  rintro e w' ⟨h1, h2⟩
  exact ⟨h1, ((Below.refl _ w).alloc (Nat.le_refl _) _).trans (h2.mono (by simp))⟩

/-- What the law asks of a place: the plain line, the painted one. -/
def pairOk (x y : ByteArray) : Prop := stripL (runes y) false = bl x ∧ x.toList.isEmpty = y.toList.isEmpty ∧ y.size ≤ 1000
theorem empty_iff (s : ByteArray) : s.toList.isEmpty = true ↔ bl s = [] := by
  rw [Lib.toList_data]; simp [bl]
theorem pair_empty : pairOk ⟨#[]⟩ ⟨#[]⟩ := ⟨by rw [show runes ⟨#[]⟩ = [] from runesFrom_end (by decide)]; rfl, rfl, Nat.zero_le _⟩
theorem pair_line {x : Int} {s : ByteArray} (h : lineB s) (hx : 0 ≤ x ∧ x < 1000) : pairOk s (inColor x s) := by
  refine ⟨inColor_strip h, ?_, inColor_size h hx⟩
  have h1 : s.toList.isEmpty = false := by rw [Bool.eq_false_iff, ne_eq, empty_iff]; exact h.2.1
  have h2 : (inColor x s).toList.isEmpty = false := by rw [Bool.eq_false_iff, ne_eq, empty_iff]; exact inColor_ne h
  rw [h1, h2]
theorem pair_at {a x : Int} {ss : List ByteArray} {m j : Nat} {u v : ByteArray} (h : ∀ s ∈ ss, lineB s) (hx : 0 ≤ x ∧ x < 1000) (hu : (padded a ss m)[j]? = some u) (hv : (padded a (ss.map (inColor x)) m)[j]? = some v) : pairOk u v := by
  unfold padded at hu hv
  rw [List.length_map] at hv
  generalize insOf a (m - ss.length) = i at *
  generalize m - ss.length - i = r at *
  by_cases h1 : j < i
  · rw [List.append_assoc, List.getElem?_append_left (by rw [List.length_replicate]; exact h1), List.getElem?_replicate_of_lt h1] at hu hv
    injection hu with hu; injection hv with hv; subst hu hv; exact pair_empty
  · rw [List.append_assoc, List.getElem?_append_right (by rw [List.length_replicate]; omega), List.length_replicate] at hu hv
    by_cases h2 : j - i < ss.length
    · rw [List.getElem?_append_left (by simpa using h2)] at hu hv
      rw [List.getElem?_map, hu] at hv
      injection hv with hv
      subst hv
      exact pair_line (h _ (List.mem_of_getElem? hu)) hx
    · rw [List.getElem?_append_right (by omega)] at hu
      rw [List.getElem?_append_right (by rw [List.length_map]; omega), List.length_map] at hv
      by_cases h3 : j - i - ss.length < r
      · rw [List.getElem?_replicate_of_lt h3] at hu hv
        injection hu with hu; injection hv with hv; subst hu hv; exact pair_empty
      · rw [List.getElem?_eq_none (by rw [List.length_replicate]; omega)] at hu
        cases hu

set_option maxHeartbeats 1000000 in
theorem textStrip_any (x y : ByteArray) (w : World) (h : pairOk x y) :
    Calls Try.prog 19 #[.string y] w fun e w' => e = .returned (.string x) ∧ Below w.heap.size w w' := by
  have hx := Lib.hid (show (⟨(stripL (runes y) false).toArray⟩ : ByteArray) = x by apply bl_ext; rw [bl_mk]; exact h.1)
  have hy := h.2.2
  clear h
  go_enter Try.func19, Try.ntmps19
  go_wp2_with fail
  refine (strip_any y _ (by omega)).mono ?_
  rintro e w2 ⟨rfl, hb2⟩
  rw [hx.out]
  go_wp2
  go_ret
  exact ⟨rfl, hb2⟩

set_option maxRecDepth 100000 in
set_option maxHeartbeats 4000000 in
theorem vAlign_any (al : Int) (A : Option Addr) (n c : Nat) (ss : List ByteArray) (x m : Int) (w : World) (hal : 0 ≤ al ∧ al ≤ 255) (ht : StrsAt w w.heap.size A n c ss) (hx : -9223372036854775808 ≤ x ∧ x ≤ 9223372036854775807) (hmz : -9223372036854775808 ≤ m ∧ m ≤ 9223372036854775807) :
    Calls Try.prog 5 #[.int .u8 al, .slice A n c, .int .i64 x, .int .i64 m] w fun e w' => e = .returned (.bool true) ∧ Below w.heap.size w w' := by
  have HTL := Lib.hid ht.len
  obtain ⟨i0, hi, hz0, hz1, hz2⟩ := info_parts infoStr
  cases hf : fitsB ss with
  | false =>
    have HF := Lib.hid hf
    clear hf
    go_enter Try.func5, Try.ntmps5
    go_wp2_with fail
    refine (fits_any _ _ _ ss _ _ ht).mono ?_
    rintro e w1 ⟨rfl, rfl⟩
    rw [HF.out]
    go_wp2
    go_ret
    exact ⟨rfl, Below.refl _ _⟩
  | true =>
    have HF := Lib.hid hf
    clear hf
    go_enter Try.func5, Try.ntmps5
    go_wp2_with fail
    refine (fits_any _ _ _ ss _ _ ht).mono ?_
    rintro e w1 ⟨rfl, rfl⟩
    rw [HF.out]
    by_cases g1 : n = 0
    · subst g1
      go_wp2
      go_ret
      exact ⟨rfl, Below.refl _ _⟩
    have g1' : ((n : Int) == 0) = false := by rw [beq_eq_false_iff_ne]; omega
    by_cases g2 : m < (n : Int)
    · clear g1
      go_wp2
      go_ret
      exact ⟨rfl, Below.refl _ _⟩
    by_cases g3 : m ≤ 100
    case neg =>
      clear g1
      go_wp2
      go_ret
      exact ⟨rfl, Below.refl _ _⟩
    cases ha : attrB x with
    | false =>
      have HA := Lib.hid ha
      clear g1 ha
      go_wp2_with fail
      refine (attr_any x _).mono ?_
      rintro e w1 ⟨rfl, rfl⟩
      rw [HA.out]
      go_wp2
      go_ret
      exact ⟨rfl, Below.refl _ _⟩
    | true =>
      have HA := Lib.hid ha
      have hxr := attr_range ha
      clear ha
      obtain ⟨k0, rfl⟩ : ∃ k0 : Nat, m = k0 := ⟨m.toNat, by omega⟩
      have hd1 : decide (k0 < n) = false := by rw [decide_eq_false_iff_not]; omega
      have hd2 : decide ((100 : Int) < k0) = false := by rw [decide_eq_false_iff_not]; omega
      go_wp2_with fail
      refine (attr_any x _).mono ?_
      rintro e w1 ⟨rfl, rfl⟩
      rw [HA.out]
      go_wp2_with fail
      go_loopw [9, 38] (fun v9 v38 wr => ∃ k : Nat, k ≤ n ∧ v38 = .int .i64 k ∧ wr.ownsRow w.heap.size 9 1 v9 k (((ss.take k).map (inColor x)).map Value.string) ∧ Below w.heap.size w wr ∧ Hid (∀ s ∈ ss.take k, lineB s)) (fun _ v38 _ => n - (intOf v38).toNat)
      case atStart => exact ⟨0, Nat.zero_le _, rfl, World.ownsRow_nil _ _ _ _, Below.refl _ _, Lib.hid (by first | trivial | (intro s hs; simp at hs) | simp)⟩
      case round =>
        obtain ⟨k, hk, rfl, hown, hbw, HL⟩ := hrel
        have hsz := hbw.size
        by_cases hlt : k < n
        · obtain ⟨ad, y, rfl, _, hy, hc⟩ := (ht.below hbw).at_ hlt
          have HY := Lib.hid hy
          clear hy
          by_cases q1 : y.size ≤ 100
          case neg =>
            go_wp2_with fail
            go_wp2
            go_ret
            exact ⟨rfl, hbw⟩
          cases q2 : y.toList.isEmpty with
          | true =>
            go_wp2_with fail
            go_wp2
            go_ret
            exact ⟨rfl, hbw⟩
          | false =>
          cases q3 : simpleB y false with
          | false =>
            have Q3 := Lib.hid q3
            clear q3
            go_wp2_with fail
            refine (simple_any y false _).mono ?_
            rintro e w1 ⟨rfl, hb1⟩
            have hb2 := hbw.trans (hb1.mono hsz)
            rw [Q3.out]
            go_wp2
            go_ret
            exact ⟨rfl, hb2⟩
          | true =>
            have hline : lineB y := ⟨q1, (by intro e; rw [(empty_iff y).2 e] at q2; cases q2), q3⟩
            have HLI := Lib.hid hline
            have Q3 := Lib.hid q3
            clear q3 hline
            go_wp2_with fail
            refine (simple_any y false _).mono ?_
            rintro e w1 ⟨rfl, hb1⟩
            have hbw1 := hbw.trans (hb1.mono hsz)
            have hown1 := own_below hown hb1 (Nat.le_refl _)
            have hsz1 := hbw1.size
            rw [Q3.out]
            clear hb1 hbw hown
            go_wp2_with fail
            refine (oneColor_any x y w1 HLI.out HA.out).mono ?_
            rintro e w2 ⟨rfl, hb2⟩
            have hown2 := own_below hown1 hb2 (Nat.le_refl _)
            have hbw2 := hbw1.trans (hb2.mono hsz1)
            have hsz2 := hbw2.size
            clear hb2 hbw1 hown1
            go_wp2_with (at_builtin; go_loud (refine wpList_append_own _ rfl _ _ 23 rfl w.heap.size 9 i0 (.string ⟨#[]⟩) 1 16 Try.underlying23 hi hz0 hz1 hz2 rfl (by decide) _ _ _ rfl (hown2.alloc _) ⟨_, 0, none⟩ 1 1 [.string (inColor x y)] rfl rfl ?c1 ?c2 ?c3 ?c4 ?c5 ?_))
            case c1 => exact cell_one_new _ _ _
            case c2 => intro u hu; simp at hu; subst hu; rfl
            case c3 => unfold maxLen; omega
            case c4 => omega
            case c5 => simp; omega
            intro v' w3 hown' hgrow _
            have hb3 : Below w.heap.size w w3 := (hbw2.alloc hsz2 _).grown hgrow (by simp; omega) (fun j hj => (World.ownsRow.lt hown2 _ hj).1)
            clear hgrow hown2 hbw2
            go_wp2
            go_roundw
            case rel =>
              refine ⟨k + 1, by omega, by go_num, ?_, hb3, ?_⟩
              · rw [take_step HY.out, List.map_append, List.map_append, List.map_take]; simpa [List.map_take] using hown'
              · rw [take_step HY.out]; exact Lib.hid (by intro z hz; rcases List.mem_append.1 hz with h | h; exact HL.out z h; simp at h; subst h; exact HLI.out)
            case measure => simp [intOf]; omega
        · have hkn : k = n := by omega
          subst hkn
          have HLL := Lib.hid (show ∀ s ∈ ss, lineB s by have := HL.out; rw [List.take_of_length_le (by rw [HTL.out]; exact Nat.le_refl _)] at this; exact this)
          have hown1 : wr.ownsRow w.heap.size 9 1 u9 k ((ss.map (inColor x)).map Value.string) := by
            rw [List.take_of_length_le (by rw [HTL.out]; exact Nat.le_refl _)] at hown; exact hown
          obtain ⟨A1, c1, hv9, hrd⟩ := own_rd hown1
          subst hv9
          have hts : StrsAt wr wr.heap.size A1 k c1 (ss.map (inColor x)) := hrd
          clear hown hown1 hrd
          have hsz0 := hbw.size
          go_wp2_with fail
          refine (tvalign_any (al % 4) _ _ _ k0 ss _ ((ht.below hbw).more hsz0) (by omega) (by omega) (by omega) (by omega)).mono ?_
          rintro e w2 ⟨A2, c2, rfl, hr2, hb2⟩
          have hts2 := (hts.below hb2).more hb2.size
          have hbw2 := hbw.trans (hb2.mono hsz0)
          clear hts hb2 hbw
          go_wp2_with fail
          refine (tvalign_any (al % 4) _ _ _ k0 (ss.map (inColor x)) _ hts2 (by omega) (by omega) (by omega) (by omega)).mono ?_
          rintro e w3 ⟨A3, c3, rfl, hr3, hb3⟩
          have hr2' := (hr2.below hb3).more hb3.size
          have hbw3 := hbw2.trans (hb3.mono hbw2.size)
          clear hts2 hb3 hbw2 hr2
          go_wp2_with fail
          go_loopw [86] (fun v86 wv => ∃ j : Nat, j ≤ k0 ∧ v86 = .int .i64 j ∧ Below w3.heap.size w3 wv) (fun v86 _ => k0 - (intOf v86).toNat)
          case atStart => exact ⟨0, Nat.zero_le _, rfl, Below.refl _ _⟩
          case round =>
            obtain ⟨j, hj, rfl, hbv⟩ := hrel
            by_cases hlt2 : j < k0
            · obtain ⟨ad2, u, rfl, hbu, hu, hcu⟩ := (hr2'.below hbv).at_ hlt2
              obtain ⟨ad3, v, rfl, hbx, hv, hcv⟩ := (hr3.below hbv).at_ hlt2
              have hpair := pair_at HLL.out (by omega) hu hv
              have HPA := Lib.hid hpair
              have hem := hpair.2.1
              have hszv := hbv.size
              clear hu hv hpair hbw3
              have hlu : ad2.block < wr.heap.size := by omega
              have hlx : ad3.block < wr.heap.size := by omega
              go_wp2_with fail
              go_region_held3 (fun w' => w'.cell? (ad2.add j) = some (.string u) ∧ w'.cell? (ad3.add j) = some (.string v) ∧ Below w3.heap.size w3 w') (first | exact ⟨hcu, hcv, hbv.drew⟩ | exact ⟨hcu2, hcv2, hbv2⟩)
                (first | (go_at_call 19; refine (textStrip_any u v _ HPA.out).mono ?_; rintro e w4 ⟨rfl, hb4⟩; have hcu2 := (hb4.cell (p := ad2.add j) (by rw [add_block]; exact hlu)).trans hcu; have hcv2 := (hb4.cell (p := ad3.add j) (by rw [add_block]; exact hlx)).trans hcv; have hbv2 := hbv.drew.trans (hb4.mono hszv)))
              clear hcu hcv hcu2 hcv2 hb4 hbv
              go_wp2
              go_roundw
              case rel => exact ⟨j + 1, by omega, by go_num, hbv2⟩
              case measure => simp [intOf]; omega
            · have hb4 := hbw3.trans (hbv.mono hbw3.size)
              go_wp2
              go_ret
              exact ⟨rfl, hb4⟩
end Go.Proofs.Ytlhpljmnacadeaa
