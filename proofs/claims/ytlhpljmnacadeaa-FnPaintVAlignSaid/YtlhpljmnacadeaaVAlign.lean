/- Walks of text.zzSplit, of strings.Repeat of a line's end, and of the vertical alignment: what they make. Condition: sizes below the bounds that are named. -/
import Derived.Test.YtlhpljmnacadeaaSearch
import Derived.Test.YtlhpljmnacadeaaBuild
import Derived.Test.YtlhpljmnacadeaaPrint
import Derived.Test.YtlhpljmnacadeaaUtf
namespace Go.Proofs.Ytlhpljmnacadeaa
open Go.RowKit

/-- A row of strings of the call's own. -/
def OwnStrs (w : World) (B : Nat) (v : Value) (l : List ByteArray) : Prop := w.ownsRow B 9 1 v l.length (l.map Value.string)
theorem OwnStrs.rd {w : World} {B : Nat} {v : Value} {l : List ByteArray} (h : OwnStrs w B v l) : ∃ A c, v = .slice A l.length c ∧ StrsAt w w.heap.size A l.length c l := own_rd h

set_option maxRecDepth 100000 in
set_option maxHeartbeats 4000000 in
theorem split_any (s p : ByteArray) (w : World) (hs : s.size ≤ 1099511627776) (hp0 : 0 < p.size) (hp : p.size ≤ 1099511627776) :
    Calls Try.prog 50 #[.string s, .string p] w fun e w' => ∃ v l, e = .returned v ∧ OwnStrs w' w.heap.size v l ∧ l.map bl = splitL (bl p) (bl s) ∧ Below w.heap.size w w' := by
  obtain ⟨i0, hi, hz0, hz1, hz2⟩ := info_parts infoStr
  have hp1 : ((p.size : Int) == 0) = false := by rw [beq_eq_false_iff_ne]; omega
  go_enter Try.func50, Try.ntmps50
  go_wp2
  go_loopw [0, 5] (fun v0 v5 wr => ∃ (t : ByteArray) (done : List ByteArray), v0 = .string t ∧ t.size ≤ s.size ∧ done.length + t.size ≤ s.size ∧ OwnStrs wr w.heap.size v5 done ∧ Below w.heap.size w wr ∧ Hid (splitL (bl p) (bl s) = done.map bl ++ splitL (bl p) (bl t))) (fun v0 _ _ => strSize v0)
  case atStart => exact ⟨s, [], rfl, Nat.le_refl _, by simp, World.ownsRow_nil _ _ _ _, Below.refl _ _, rfl⟩
  case round =>
    obtain ⟨t, done, rfl, ht, hdl, hown, hbw, HA⟩ := hrel
    have hsz := hbw.size
    unfold OwnStrs at hown
    obtain ⟨n, hn⟩ : ∃ n, n = done.length := ⟨_, rfl⟩
    rw [← hn] at hown hdl
    have HN := Lib.hid hn
    clear hn
    rcases zfind_spec t p [] hp0 0 (Nat.zero_le _) with ⟨hz, _, hspl⟩ | ⟨i, hz, _, hin, _, hspl⟩
    · have HS := Lib.hid (show splitL (bl p) (bl s) = (done ++ [t]).map bl by
        rw [HA.out]; rw [List.drop_zero] at hspl; rw [hspl]; simp)
      have HZ := Lib.hid hz
      clear hspl hz HA
      go_wp2_with fail
      refine (index_any t p _ (by omega) (by omega)).mono ?_
      rintro e w' ⟨rfl, rfl⟩
      rw [HZ.out]
      go_wp2_with (at_builtin; go_loud (refine wpList_append_own _ rfl _ _ 23 rfl w.heap.size 9 i0 (.string ⟨#[]⟩) 1 16 Try.underlying23 hi hz0 hz1 hz2 rfl (by decide) _ _ _ rfl (hown.alloc _) ⟨_, 0, none⟩ 1 1 [.string t] rfl rfl ?c1 ?c2 ?c3 ?c4 ?c5 ?_))
      case c1 => exact cell_one_new _ _ _
      case c2 => intro u hu; simp at hu; subst hu; rfl
      case c3 => unfold maxLen; omega
      case c4 => omega
      case c5 => simp; omega
      intro v' w3 hown' hgrow _
      have hb3 : Below w.heap.size w w3 := (hbw.alloc hsz _).grown hgrow (by simp; omega) (fun j hj => (World.ownsRow.lt hown _ hj).1)
      clear hgrow hown hbw
      go_wp2
      go_ret
      exact ⟨_, done ++ [t], rfl, by unfold OwnStrs; rw [List.length_append, List.map_append, ← HN.out]; exact hown', HS.out.symm, hb3⟩
    · have e1 : bl (t.extract 0 i) = (bl t).take i := by rw [bl, Lib.extract_data]; simp
      have e2 : bl (t.extract (i + p.size) t.size) = (bl t).drop (i + p.size) := Lib.extract_to_end t _
      have hl2 : (t.extract (i + p.size) t.size).size = t.size - (i + p.size) := by rw [← bl_size, e2, List.length_drop, bl_size]
      have HS := Lib.hid (show splitL (bl p) (bl s) = (done ++ [t.extract 0 i]).map bl ++ splitL (bl p) (bl (t.extract (i + p.size) t.size)) by
        rw [HA.out]; rw [List.drop_zero, Nat.sub_zero] at hspl; rw [hspl, e2]; simp only [List.map_append, List.map_cons, List.map_nil, e1, List.append_assoc]; rfl)
      have HL2 := Lib.hid hl2
      have HZ := Lib.hid hz
      clear hspl hz HA hl2 e1 e2
      go_wp2_with fail
      refine (index_any t p _ (by omega) (by omega)).mono ?_
      rintro e w' ⟨rfl, rfl⟩
      rw [HZ.out]
      go_wp2_with (at_builtin; go_loud (refine wpList_append_own _ rfl _ _ 23 rfl w.heap.size 9 i0 (.string ⟨#[]⟩) 1 16 Try.underlying23 hi hz0 hz1 hz2 rfl (by decide) _ _ _ rfl (hown.alloc _) ⟨_, 0, none⟩ 1 1 [.string (t.extract 0 i)] rfl rfl ?c1 ?c2 ?c3 ?c4 ?c5 ?_))
      case c1 => exact cell_one_new _ _ _
      case c2 => intro u hu; simp at hu; subst hu; rfl
      case c3 => unfold maxLen; omega
      case c4 => omega
      case c5 => simp; omega
      intro v' w3 hown' hgrow _
      have hb3 : Below w.heap.size w w3 := (hbw.alloc hsz _).grown hgrow (by simp; omega) (fun j hj => (World.ownsRow.lt hown _ hj).1)
      clear hgrow hown hbw
      go_wp2
      go_roundw
      case rel => exact ⟨t.extract (i + p.size) t.size, done ++ [t.extract 0 i], rfl, by rw [HL2.out]; omega, by rw [HL2.out, List.length_append, ← HN.out]; simp; omega, by unfold OwnStrs; rw [List.length_append, List.map_append, ← HN.out]; exact hown', hb3, HS⟩
      case measure => simp [strSize, HL2.out]; omega

theorem repeatL_one (b : UInt8) : ∀ c : Nat, Lib.repeatL [b] c = List.replicate c b := by
  intro c
  induction c with
  | zero => rfl
  | succ c ih => rw [Lib.repeatL, ih, List.replicate_succ]; rfl

theorem repeat_any (c : Nat) (w : World) (hc : c ≤ 1099511627776) :
    Calls Try.prog 51 #[.string ⟨#[10]⟩, .int .i64 c] w fun e w' => e = .returned (.string ⟨(List.replicate c 10).toArray⟩) ∧ Below w.heap.size w w' := by
  match c, hc with
  | 0, _ => exact (Try.strings_Repeat_zero _ w).mono fun e w' ⟨h1, h2⟩ => ⟨h1, by rw [h2]; exact Below.refl _ _⟩
  | 1, _ => exact (Try.strings_Repeat_one _ w).mono fun e w' ⟨h1, h2⟩ => ⟨h1, by rw [h2]; exact Below.refl _ _⟩
  | c + 2, hc =>
    have := Try.strings_Repeat_main ⟨#[10]⟩ (c + 2) w (by omega) (by omega) (by show 1 * (c + 2) ≤ _; omega) (by decide)
    exact this.mono fun e w' ⟨h1, h2⟩ => ⟨by rw [h1, ← repeatL_one], h2⟩

theorem splitL_ends : ∀ c : Nat, splitL [10] (List.replicate c 10) = List.replicate (c + 1) []
  | 0 => splitL_nil _
  | c + 1 => by
    rw [List.replicate_succ, splitL_hit (by simp [List.isPrefixOf])]
    simp only [List.length_cons, List.length_nil, Nat.zero_add, Nat.sub_self, List.drop_zero]
    rw [splitL_ends c]
    rfl

/-- What the lines are while k of them have been laid. -/
def laidK (ins m k : Nat) (ss : List ByteArray) : List ByteArray := List.replicate ins ⟨#[]⟩ ++ ss.take k ++ List.replicate (m - ins - k) ⟨#[]⟩
theorem laidK_len {ins m k : Nat} {ss : List ByteArray} (h : ins + ss.length ≤ m) (hk : k ≤ ss.length) : (laidK ins m k ss).length = m := by simp [laidK]; omega
theorem laidK_zero {ins m : Nat} {ss : List ByteArray} (h : ins + ss.length ≤ m) : laidK ins m 0 ss = List.replicate m ⟨#[]⟩ := by
  unfold laidK
  rw [List.take_zero, List.append_nil, List.replicate_append_replicate]
  congr 1
  omega
theorem laidK_step {ins m k : Nat} {ss : List ByteArray} {y : ByteArray} (h : ins + ss.length ≤ m) (hy : ss[k]? = some y) : (laidK ins m k ss).set (k + ins) y = laidK ins m (k + 1) ss := by
  have hk : k < ss.length := (List.getElem?_eq_some_iff.1 hy).1
  unfold laidK
  rw [take_step hy, List.append_assoc, List.set_append_right _ _ (by simp), List.length_replicate, Nat.add_sub_cancel, List.set_append_right _ _ (by simp; omega), List.length_take, Nat.min_eq_left (by omega), Nat.sub_self]
  obtain ⟨r, hr⟩ : ∃ r, m - ins - k = r + 1 := ⟨m - ins - k - 1, by omega⟩
  rw [hr, List.replicate_succ, List.set_cons_zero, show m - ins - (k + 1) = r by omega]
  simp
theorem bl_replicate {l : List ByteArray} {m : Nat} (h : l.map bl = List.replicate m []) : l = List.replicate m ⟨#[]⟩ := by
  rw [List.eq_replicate_iff] at h ⊢
  refine ⟨by simpa using h.1, fun x hx => bl_ext ?_⟩
  exact h.2 _ (List.mem_map.2 ⟨x, hx, rfl⟩)

/-- How many lines go ahead. -/
def insOf (a : Int) (d : Nat) : Nat := if a = 2 then d / 2 else if a = 3 then d else 0
def padded (a : Int) (ss : List ByteArray) (m : Nat) : List ByteArray := List.replicate (insOf a (m - ss.length)) ⟨#[]⟩ ++ ss ++ List.replicate (m - ss.length - insOf a (m - ss.length)) ⟨#[]⟩

set_option maxHeartbeats 4000000 in
theorem apply_any (a : Int) (A : Option Addr) (n c m : Nat) (ss : List ByteArray) (w : World) (h : StrsAt w w.heap.size A n c ss) (hn : 1 ≤ n) (hm : n ≤ m) (hm2 : m ≤ 1000) (ha : 0 ≤ a ∧ a ≤ 3) :
    Calls Try.prog 31 #[.int .i64 a, .slice A n c, .int .i64 m] w fun e w' => ∃ A' c', e = .returned (.slice A' m c') ∧ StrsAt w' w'.heap.size A' m c' (padded a ss m) ∧ Below w.heap.size w w' := by
  have hl := h.len
  by_cases he : n = m
  · subst he
    have HP := Lib.hid (show padded a ss n = ss by
      unfold padded; rw [hl, Nat.sub_self, show insOf a 0 = 0 by unfold insOf; split <;> (try split) <;> rfl]; simp)
    clear hl
    go_enter Try.func31, Try.ntmps31
    go_wp2
    go_ret
    exact ⟨A, c, rfl, by rw [HP.out]; exact h, Below.refl _ _⟩
  · have h1 : ((n : Int) == m) = false := by rw [beq_eq_false_iff_ne]; omega
    have h2 : n < m := by omega
    have h3 : ¬ (m : Int) < n := by omega
    obtain ⟨ins, hins⟩ : ∃ ins, ins = insOf a (m - n) := ⟨_, rfl⟩
    have hib : ins + n ≤ m := by rw [hins]; unfold insOf; split <;> (try split) <;> omega
    have HINS := Lib.hid hins
    clear he hins
    have e1 : (m : Int) - 1 = ((m - 1 : Nat) : Int) := by omega
    have E1 := Lib.hid e1
    clear e1
    have hcase : (a == 2) = true ∧ Hid (((m : Int) - n) / 2 = ins) ∨ ((a == 2) = false ∧ (a == 3) = true) ∧ Hid ((m : Int) - n = ins) ∨ ((a == 2) = false ∧ (a == 3) = false) ∧ Hid ((0 : Int) = (ins : Int)) := by
      rw [HINS.out]
      unfold insOf
      by_cases a2 : a = 2
      · left; refine ⟨by simp [a2], ?_⟩; show _ = _; rw [if_pos a2]; omega
      · by_cases a3 : a = 3
        · right; left; refine ⟨⟨by simp [a2], by simp [a3]⟩, ?_⟩; show _ = _; rw [if_neg a2, if_pos a3]; omega
        · right; right; refine ⟨⟨by simp [a2], by simp [a3]⟩, ?_⟩; show _ = _; rw [if_neg a2, if_neg a3]; rfl
    rcases hcase with ⟨a2, hi⟩ | ⟨⟨a2, a3⟩, hi⟩ | ⟨⟨a2, a3⟩, hi⟩
    all_goals
      go_enter Try.func31, Try.ntmps31
      go_wp2_with fail
      rw [E1.out]
      try rw [hi.out]
      refine (repeat_any (m - 1) _ (by omega)).mono ?_
      rintro e w1 ⟨rfl, hb1⟩
      have hz : (⟨(List.replicate (m - 1) 10).toArray⟩ : ByteArray).size ≤ 1099511627776 := by rw [mk_size, List.length_replicate]; omega
      have HSP := Lib.hid (show splitL (bl ⟨#[10]⟩) (bl ⟨(List.replicate (m - 1) 10).toArray⟩) = List.replicate m [] by
        rw [bl_mk]; have := splitL_ends (m - 1); rw [Nat.sub_add_cancel (by omega)] at this; exact this)
      generalize (⟨(List.replicate (m - 1) 10).toArray⟩ : ByteArray) = q at *
      go_wp2_with fail
      refine (split_any q ⟨#[10]⟩ _ hz (by decide) (by decide)).mono ?_
      rintro e w2 ⟨v, l, rfl, hown, hlb, hb2⟩
      rw [HSP.out] at hlb
      obtain rfl := bl_replicate hlb
      have hown0 : OwnStrs w2 w.heap.size v (List.replicate m ⟨#[]⟩) := own_base hown hb1.size
      have hb12 := hb1.trans (hb2.mono hb1.size)
      clear hown hlb hb1 hb2 hz
      obtain ⟨g, cap, rfl⟩ : ∃ g cap, v = .slice (some ⟨g, 0, none⟩) m cap := by
        rcases hown0.2 with ⟨_, h0⟩ | ⟨g, cap, cur, hv, _⟩
        · simp at h0; omega
        · exact ⟨g, cap, by rw [hv, List.length_replicate]⟩
      have hg : w.heap.size ≤ g := (World.ownsRow.lt hown0 _ rfl).1
      have hstart : w2.ownsRow w.heap.size 9 1 (.slice (some ⟨g, 0, none⟩) m cap) m ((laidK ins m 0 ss).map Value.string) := by
        rw [laidK_zero (by omega)]; unfold OwnStrs at hown0; rw [List.length_replicate] at hown0; exact hown0
      have hmc : m ≤ cap := by
        rcases hown0.2 with ⟨h0, _⟩ | ⟨g', cap', cur, hv, _, _, h1, _⟩
        · cases h0
        · simp only [Value.slice.injEq, Option.some.injEq] at hv
          rw [← hv.2.2] at h1; simpa using h1
      clear hown0
      have hrd := h.below hb12
      go_wp2_with fail
      go_loopw [45] (fun v45 wr => ∃ k : Nat, k ≤ n ∧ v45 = .int .i64 k ∧ wr.ownsRow w.heap.size 9 1 (.slice (some ⟨g, 0, none⟩) m cap) m ((laidK ins m k ss).map Value.string) ∧ Below w.heap.size w wr) (fun v45 _ => n - (intOf v45).toNat)
      case atStart => exact ⟨0, Nat.zero_le _, rfl, hstart, hb12⟩
      case round =>
        obtain ⟨k, hk, rfl, hown, hbw⟩ := hrel
        clear hstart hb12 hrd
        by_cases hlt : k < n
        · obtain ⟨ad, y, rfl, _, hy, hc⟩ := (h.below hbw).at_ hlt
          have HSET := Lib.hid (laidK_step (ins := ins) (m := m) (by omega) hy)
          clear hy
          have hfz := hown.frozenAt (k + ins)
          have hll := laidK_len (ins := ins) (m := m) (k := k) (ss := ss) (by omega) (by omega)
          obtain ⟨x, hx⟩ : ∃ x, ((laidK ins m k ss).map Value.string)[k + ins]? = some x := ⟨_, List.getElem?_eq_getElem (by rw [List.length_map, hll]; omega)⟩
          have hce := hown.cellAt (k + ins) (by omega)
          rw [hx] at hce
          have hnew := Lib.hid (hown.stored (k + ins) (.string y)).1
          have hbn := hbw.setCell (p := ⟨g, k + ins, none⟩) hg (.string y)
          clear hll hx hown hbw
          go_wp2
          go_roundw
          case rel => exact ⟨k + 1, by omega, by go_num, by rw [← HSET.out, List.map_set]; exact hnew.out, hbn⟩
          case measure => simp [intOf]; omega
        · have hkn : k = n := by omega
          subst hkn
          have HP := Lib.hid (show laidK ins m k ss = padded a ss m by
            unfold laidK padded
            rw [List.take_of_length_le (by omega), hl, ← HINS.out, show m - ins - k = m - k - ins by omega])
          have hrr := own_rd hown
          have hr2 : ∃ A c, (Value.slice (some ⟨g, 0, none⟩) m cap) = .slice A m c ∧ StrsAt wr wr.heap.size A m c (padded a ss m) := by
            obtain ⟨A', c', h1, h2⟩ := hrr
            rw [HP.out] at h2
            exact ⟨A', c', h1, h2⟩
          clear hrr hown
          go_wp2
          go_ret
          obtain ⟨A', c', h1, h2⟩ := hr2
          refine ⟨A', c', ?_, h2, hbw⟩
          rw [← h1]; rfl

theorem strs_one (l : List ByteArray) : ∀ u ∈ l.map Value.string, u.oneCell' = true := by
  intro u hu; obtain ⟨x, _, rfl⟩ := List.mem_map.1 hu; rfl

set_option maxHeartbeats 2000000 in
theorem tvalign_any (a : Int) (A : Option Addr) (n c m : Nat) (ss : List ByteArray) (w : World) (h : StrsAt w w.heap.size A n c ss) (hn : 1 ≤ n) (hm : n ≤ m) (hm2 : m ≤ 1000) (ha : 0 ≤ a ∧ a ≤ 3) :
    Calls Try.prog 18 #[.int .i64 a, .slice A n c, .int .i64 m] w fun e w' => ∃ A' c', e = .returned (.slice A' m c') ∧ StrsAt w' w'.heap.size A' m c' (padded a ss m) ∧ Below w.heap.size w w' := by
  obtain ⟨i0, hi, hz0, hz1, hz2⟩ := info_parts infoStr
  have hmk := World.ownsRow_lit (base := w.heap.size) (e := 9) (size := 1) w #[] 0 (Nat.le_refl _) (by unfold maxLen; omega) rfl
  go_enter Try.func18, Try.ntmps18
  go_wp2_with (at_builtin; go_loud (refine wpList_append_rd rfl (.tmp 8) (.tmp 9) 23 rfl w.heap.size 9 i0 (.string ⟨#[]⟩) 1 16 Try.underlying23 hi hz0 hz1 hz2 rfl (by decide) _ _ _ rfl hmk w.heap.size A n c _ rfl (Rd.alloc h (Nat.le_refl _) _) (strs_one ss) ?c1 ?c2 ?c3 ?_))
  case c1 => unfold maxLen; omega
  case c2 => omega
  intro v1 w1 hown1 hgrow1 _
  have hb1 : Below w.heap.size w w1 := ((Below.refl _ w).alloc (Nat.le_refl _) _).grown hgrow1 (by simp) (fun k hk => by simp [Value.ownBlock] at hk; omega)
  obtain ⟨A1, c1, rfl, hrd1⟩ := own_rd hown1
  have hs1 : StrsAt w1 w1.heap.size A1 n c1 ss := hrd1
  clear hgrow1 hown1 hmk hrd1
  go_wp2_with fail
  refine (apply_any a _ _ _ m ss _ hs1 hn hm hm2 ha).mono ?_
  rintro e w2 ⟨A2, c2, rfl, hs2, hb2⟩
  have hb3 := hb1.trans (hb2.mono hb1.size)
  go_wp2
  go_ret
  exact ⟨A2, c2, rfl, hs2, hb3⟩
end Go.Proofs.Ytlhpljmnacadeaa
