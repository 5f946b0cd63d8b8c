/- Walk of laws.FnListsUnIndents: it answers true and writes nothing that was there. No condition. -/
import Derived.Test.YtaebdgjebdjlaaaDoorListPlain
import Derived.Test.YtaebdgjebdjlaaaDoorOwnSteps
namespace Go.Proofs.YtaebdgjebdjlaaaDoor
open Go.RowKit

theorem cost_append (a b : List Step) : cost (a ++ b) = cost a + cost b := by unfold cost; rw [List.map_append, List.sum_append]
theorem cost_one (k : Int) (t : ByteArray) (ts : List ByteArray) : cost [⟨k, t, ts⟩] = ts.length + 1 := by simp [cost]
theorem cost_rep (k : Int) (t : ByteArray) (r : Nat) : cost (List.replicate r ⟨k, t, []⟩) = r := by simp [cost]

/-- Steps that make something else: all un-indents; un-indents. -/
def unAll : Step := ⟨4, ⟨#[]⟩, []⟩
def unOne : Step := ⟨3, ⟨#[]⟩, []⟩
theorem play_rep (out : List (ByteArray × Nat)) : ∀ r : Nat, (List.replicate r unOne).foldl playStep (out, 0) = (out, 0)
  | 0 => rfl
  | r + 1 => by rw [List.replicate_succ, List.foldl_cons, show playStep (out, 0) unOne = (out, 0) from rfl, play_rep out r]
theorem played_un (l more : List Step) (r : Nat) : played (l ++ [unAll] ++ List.replicate r unOne ++ more) = played (l ++ [unAll] ++ more) := by
  unfold played
  simp only [List.foldl_append, List.foldl_cons, List.foldl_nil]
  generalize List.foldl playStep ([], 0) l = st
  rw [show playStep st unAll = (st.1, 0) from rfl, play_rep]

theorem small_one {k : Int} : ∀ s ∈ [(⟨k, ⟨#[]⟩, []⟩ : Step)], s.text.size ≤ 1000 ∧ ∀ t ∈ s.texts, t.size ≤ 1000 := by
  intro s hs
  simp at hs
  subst hs
  exact ⟨Nat.zero_le _, fun t ht => by simp at ht⟩
theorem plainT_nil : plainT ⟨#[]⟩ := ⟨by decide, by decide, by decide⟩
theorem plain_none {k : Int} : plainS ⟨k, ⟨#[]⟩, []⟩ := ⟨plainT_nil, fun t ht => by simp at ht⟩
theorem ListsOK.app {P : Step → Prop} {a b : List Step} (ha : ∀ s ∈ a, P s) (hb : ∀ s ∈ b, P s) : ∀ s ∈ a ++ b, P s := fun s hs => (List.mem_append.1 hs).elim (ha s) (hb s)

/-- What is known of steps that are rendered. -/
structure Fine (l : List Step) : Prop where
  len : l.length ≤ 300
  cost : cost l ≤ 2000
  plain : ∀ s ∈ l, plainS s
  small : ∀ s ∈ l, s.text.size ≤ 1000 ∧ ∀ t ∈ s.texts, t.size ≤ 1000
theorem Fine.drawn {l : List Step} (h : Fine l) : itemsSmall (played l) := played_drawn h.len h.cost h.small
theorem Fine.html {l : List Step} (h : Fine l) : ∀ s ∈ l, s.text.size ≤ 100000 ∧ ∀ t ∈ s.texts, t.size ≤ 100000 := fun s hs => ⟨by have := (h.small s hs).1; omega, fun t ht => by have := (h.small s hs).2 t ht; omega⟩
theorem Fine.of_right {l : List Step} (h : rightB l = true) : Fine l := by
  obtain ⟨h1, h2, h3⟩ := right_plain h
  exact ⟨by omega, by omega, h1, right_small h⟩

set_option maxRecDepth 100000 in
set_option maxHeartbeats 16000000 in
theorem listsUn_any (A1 : Option Addr) (n1 c1 : Nat) (l : List Step) (A2 : Option Addr) (n2 c2 : Nat) (more : List Step) (x : Int) (w : World) (h1 : StepsAt w w.heap.size A1 n1 c1 l) (h2 : StepsAt w w.heap.size A2 n2 c2 more) (z1 : A1 = none → n1 = 0 ∧ c1 = 0) (z2 : A2 = none → n2 = 0 ∧ c2 = 0) (hx : 0 ≤ x ∧ x ≤ 255) :
    Calls Tryd.prog 12 #[.slice A1 n1 c1, .slice A2 n2 c2, .int .u8 x] w fun e w' => e = .returned (.bool true) ∧ Below w.heap.size w w' := by
  cases hf : fitStepsB l with
  | false =>
    have HF := Lib.hid hf
    clear hf
    go_enter Tryd.func12, Tryd.ntmps12
    go_wp2_with fail
    refine (fitSteps_any _ _ _ l _ h1).mono ?_
    rintro e w1 ⟨rfl, hb1⟩
    rw [HF.out]
    go_wp2
    go_ret
    exact ⟨rfl, hb1⟩
  | true =>
  have HF := Lib.hid hf
  clear hf
  cases hf2 : fitStepsB more with
  | false =>
    have HF2 := Lib.hid hf2
    clear hf2
    go_enter Tryd.func12, Tryd.ntmps12
    go_wp2_with fail
    refine (fitSteps_any _ _ _ l _ h1).mono ?_
    rintro e w1 ⟨rfl, hb1⟩
    rw [HF.out]
    have g2 := (h2.below hb1).more hb1.size
    go_wp2_with fail
    refine (fitSteps_any _ _ _ more _ g2).mono ?_
    rintro e w2 ⟨rfl, hb2⟩
    rw [HF2.out]
    have hb3 := hb1.trans (hb2.mono hb1.size)
    go_wp2
    go_ret
    exact ⟨rfl, hb3⟩
  | true =>
  have HF2 := Lib.hid hf2
  clear hf2
  go_enter Tryd.func12, Tryd.ntmps12
  go_wp2_with fail
  refine (fitSteps_any _ _ _ l _ h1).mono ?_
  rintro e w1 ⟨rfl, hb1⟩
  rw [HF.out]
  have g2 := (h2.below hb1).more hb1.size
  go_wp2_with fail
  refine (fitSteps_any _ _ _ more _ g2).mono ?_
  rintro e w2 ⟨rfl, hb2⟩
  rw [HF2.out]
  have hb12 := hb1.trans (hb2.mono hb1.size)
  have g1' := (h1.below hb12).more hb12.size
  clear g2 hb1 hb2
  cases hr : rightB l with
  | false =>
    have HR := Lib.hid hr
    clear hr
    go_wp2_with fail
    refine (right_any _ _ _ l _ g1').mono ?_
    rintro e w3 ⟨rfl, hb3⟩
    rw [HR.out]
    have hb13 := hb12.trans (hb3.mono hb12.size)
    go_wp2
    go_ret
    exact ⟨rfl, hb13⟩
  | true =>
  have HR := Lib.hid hr
  have HFI := Lib.hid (Fine.of_right hr)
  have hl80 := (right_plain hr).2.2
  have hc80 := (right_plain hr).2.1
  clear hr
  go_wp2_with fail
  refine (right_any _ _ _ l _ g1').mono ?_
  rintro e w3 ⟨rfl, hb3⟩
  rw [HR.out]
  have hb13 := hb12.trans (hb3.mono hb12.size)
  have g2' := (h2.below hb13).more hb13.size
  clear g1' hb12 hb3
  cases hr2 : rightB more with
  | false =>
    have HR2 := Lib.hid hr2
    clear hr2
    go_wp2_with fail
    refine (right_any _ _ _ more _ g2').mono ?_
    rintro e w4 ⟨rfl, hb4⟩
    rw [HR2.out]
    have hb14 := hb13.trans (hb4.mono hb13.size)
    go_wp2
    go_ret
    exact ⟨rfl, hb14⟩
  | true =>
  have HR2 := Lib.hid hr2
  have HFI2 := Lib.hid (Fine.of_right hr2)
  have hm80 := (right_plain hr2).2.2
  have hd80 := (right_plain hr2).2.1
  clear hr2
  go_wp2_with fail
  refine (right_any _ _ _ more _ g2').mono ?_
  rintro e w4 ⟨rfl, hb4⟩
  rw [HR2.out]
  have hb14 := hb13.trans (hb4.mono hb13.size)
  clear g2' hb13 hb4
  have hn1 : n1 ≤ 80 := by rw [← h1.len]; exact hl80
  have hn2 : n2 ≤ 80 := by rw [← h2.len]; exact hm80
  have hB4 : w.heap.size ≤ w4.heap.size := hb14.size
  have s1 := h1.below hb14
  have HS1 := Lib.hid s1
  have HS2 := Lib.hid h2
  have Z1 := Lib.hid z1
  have Z2 := Lib.hid z2
  clear h1 h2 s1 z1 z2
  have hlit := OwnSteps.fresh (w := w4) hB4
  have hbl4 := hb14.alloc hB4 (.cells #[] 42)
  have hsr1 := (HS1.out.below ((Below.refl _ w4).alloc (Nat.le_refl _) (.cells #[] 42) |>.mono hB4)).src (G := fun k => k < w.heap.size) (by simp; omega) Z1.out (fun _ h => h)
  go_wp2_with (at_builtin; go_loud (refine wpList_append_steps rfl _ _ rfl w.heap.size (fun k => k < w.heap.size) _ _ _ rfl hlit A1 n1 c1 l rfl hsr1 (by omega) (by simp; omega) ?_))
  intro va w5 ha hg5 ho5
  have hb5 := hbl4.grown hg5 (by simp; omega) (fun k hk => by have : some w4.heap.size = some k := hk; injection this with this; omega)
  have hB5 := hb5.size
  have haA := ha.below ((Below.refl _ w5).alloc (Nat.le_refl _) (.cells #[.int .i64 4, .string ⟨#[]⟩, .slice none 0 0] 42))
  have hsr2 := src_one w5 (fun k => k < w.heap.size) 4 ⟨#[]⟩
  have hbA := hb5.alloc (by omega) (.cells #[.int .i64 4, .string ⟨#[]⟩, .slice none 0 0] 42)
  have hl5 : ∀ k, va.ownBlock = some k → w.heap.size ≤ k ∧ k < w5.heap.size := fun k hk => ha.lt hk
  clear hlit hbl4 hsr1 hg5 ho5
  go_wp2_with (at_builtin; go_loud (refine wpList_append_steps rfl _ _ rfl w.heap.size (fun k => k < w.heap.size) _ _ _ rfl haA (some ⟨w5.heap.size, 0, none⟩) 1 1 [unAll] rfl hsr2 (by omega) (by simp; omega) ?_))
  intro va2 w6 ha2 hg6 ho6
  have hb6 := hbA.grown hg6 (by simp; omega) (fun k hk => (hl5 k hk).1)
  have hB6 := hb6.size
  clear ha haA hsr2 hbA hl5 hg6 ho6 hb5 hB5
  obtain ⟨A7, c7, rfl, _, _⟩ := ha2.at_
  have hlit2 := OwnSteps.fresh (w := w6) (B := w.heap.size) (by omega)
  have ha2B := ha2.below ((Below.refl _ w6).alloc (Nat.le_refl _) (.cells #[] 42))
  have hb6B := hb6.alloc (by omega) (.cells #[] 42)
  obtain ⟨A7', c7', hv7, _, hsr7⟩ := ha2B.at_
  injection hv7 with e1 e2 e3
  subst e1 e3
  clear e2
  have hne7 : (Value.slice A7 (n1 + 1) c7).ownBlock = none ∨ (Value.slice A7 (n1 + 1) c7).ownBlock ≠ some w6.heap.size := Or.inr (fun e => by have := (ha2.lt e).2; omega)
  have hlt7 : ∀ k, (Value.slice A7 (n1 + 1) c7).ownBlock = some k → k < w6.heap.size := fun k hk => (ha2.lt hk).2
  clear ha2
  go_wp2_with (at_builtin; go_loud (refine wpList_append_steps rfl _ _ rfl w.heap.size (fun k => k < w.heap.size) _ _ _ rfl hlit2 A7 (n1 + 1) c7 (l ++ [unAll]) rfl hsr7 (by omega) (by simp; omega) ?_))
  intro vb w7 hvb hg7 ho7
  have hb7 := hb6B.grown hg7 (by simp; omega) (fun k hk => by have : some w6.heap.size = some k := hk; injection this with this; omega)
  have ha3 := ha2B.grown hg7 hne7 (fun k hk e => by have : some k = some w6.heap.size := e; injection this with this; omega)
  have hap7 : (Value.slice A7 (n1 + 1) c7).ownBlock ≠ vb.ownBlock ∨ (Value.slice A7 (n1 + 1) c7).ownBlock = none := by
    cases he : (Value.slice A7 (n1 + 1) c7).ownBlock with
    | none => exact Or.inr rfl
    | some k =>
      left
      have hk := (ha2B.lt he).2
      rcases hne7 with h | h
      · rw [he] at h; cases h
      · rw [he] at h
        rcases ho7 with h2 | h2
        · rw [h2]; exact h
        · rw [h2]; intro e3; injection e3 with e3
          have hz : (w6.alloc (.cells #[] 42)).heap.size = w6.heap.size + 1 := by simp
          have hk6 := hlt7 k he
          omega
  clear hlit2 ha2B hb6B hsr7 hne7 hg7 ho7 hb6 hlt7
  obtain ⟨r, hr⟩ : ∃ r : Nat, 1 + x % 5 = (r : Int) := ⟨(1 + x % 5).toNat, by omega⟩
  have hr5 : r ≤ 5 := by omega
  go_wp2_with fail
  go_loopw [8, 38] (fun v8 v38 wr => ∃ j : Nat, j ≤ r ∧ v38 = .int .i64 j ∧ OwnSteps wr w.heap.size (fun k => k < w.heap.size) v8 (n1 + 1 + j) (l ++ [unAll] ++ List.replicate j unOne) ∧ OwnSteps wr w.heap.size (fun k => k < w.heap.size) (.slice A7 (n1 + 1) c7) (n1 + 1) (l ++ [unAll]) ∧ Below w.heap.size w wr ∧ ((Value.slice A7 (n1 + 1) c7).ownBlock ≠ v8.ownBlock ∨ (Value.slice A7 (n1 + 1) c7).ownBlock = none)) (fun _ v38 _ => r - (intOf v38).toNat)
  case atStart => exact ⟨0, Nat.zero_le _, rfl, by simpa using hvb, ha3, hb7, hap7⟩
  case round =>
    obtain ⟨j, hj, rfl, hvj, haj, hbj, hapj⟩ := hrel
    clear hvb ha3 hb7 hap7
    have hszj := hbj.size
    have hvl : ∀ k, u8.ownBlock = some k → w.heap.size ≤ k ∧ k < wr.heap.size := fun k hk => hvj.lt hk
    have hal : ∀ k, (Value.slice A7 (n1 + 1) c7).ownBlock = some k → w.heap.size ≤ k ∧ k < wr.heap.size := fun k hk => haj.lt hk
    by_cases hlt : j < r
    · have hji : (j : Int) < 1 + x % 5 := by omega
      have hvA := hvj.below ((Below.refl _ wr).alloc (Nat.le_refl _) (.cells #[.int .i64 3, .string ⟨#[]⟩, .slice none 0 0] 42))
      have haA := haj.below ((Below.refl _ wr).alloc (Nat.le_refl _) (.cells #[.int .i64 3, .string ⟨#[]⟩, .slice none 0 0] 42))
      have hbA := hbj.alloc hszj (.cells #[.int .i64 3, .string ⟨#[]⟩, .slice none 0 0] 42)
      have hsrc := src_one wr (fun k => k < w.heap.size) 3 ⟨#[]⟩
      clear hvj haj
      go_wp2_with (at_builtin; go_loud (refine wpList_append_steps rfl _ _ rfl w.heap.size (fun k => k < w.heap.size) _ _ _ rfl hvA (some ⟨wr.heap.size, 0, none⟩) 1 1 [unOne] rfl hsrc (by omega) (by simp; omega) ?_))
      intro v' w8 hv' hg8 ho8
      have hb8 := hbA.grown hg8 (by simp; omega) (fun k hk => (hvl k hk).1)
      have ha8 := haA.grown hg8 (by rcases hapj with h | h; exact Or.inr h; exact Or.inl h) hvA.apart
      have hap8 : (Value.slice A7 (n1 + 1) c7).ownBlock ≠ v'.ownBlock ∨ (Value.slice A7 (n1 + 1) c7).ownBlock = none := by
        cases he : (Value.slice A7 (n1 + 1) c7).ownBlock with
        | none => exact Or.inr rfl
        | some k =>
          left
          have hk := (hal k he).2
          have hz : (wr.alloc (.cells #[.int .i64 3, .string ⟨#[]⟩, .slice none 0 0] 42)).heap.size = wr.heap.size + 1 := by simp
          rcases ho8 with h2 | h2
          · rw [h2, ← he]
            rcases hapj with h | h
            · exact h
            · rw [he] at h; cases h
          · rw [h2]; intro e3; injection e3 with e3; omega
      clear hvA haA hbA hsrc hg8 ho8 hbj hapj hvl hal
      go_wp2
      go_roundw
      case rel => exact ⟨j + 1, by omega, by go_num, by rw [List.replicate_succ']; simpa [Nat.add_assoc] using hv', ha8, hb8, hap8⟩
      case measure => simp [intOf]; omega
    · have hjr : j = r := by omega
      subst hjr
      have hji : ¬ (j : Int) < 1 + x % 5 := by omega
      have hr5' : j ≤ 5 := by omega
      have hsrc := (HS2.out.below hbj).src (G := fun k => k < w.heap.size) hszj Z2.out (fun _ h => h)
      go_wp2_with (at_builtin; go_loud (refine wpList_append_steps rfl _ _ rfl w.heap.size (fun k => k < w.heap.size) _ _ _ rfl haj A2 n2 c2 more rfl hsrc (by omega) hszj ?_))
      intro va3 w9 ha9 hg9 ho9
      have hb9 := hbj.grown hg9 hszj (fun k hk => (hal k hk).1)
      have hv9 := hvj.grown hg9 (by
        cases he : (Value.slice A7 (n1 + 1) c7).ownBlock with
        | none => cases hu : u8.ownBlock with
          | none => exact Or.inl rfl
          | some k => right; intro e; cases e
        | some k =>
          rcases hapj with h | h
          · right; intro e; exact h (by rw [he, ← e])
          · rw [he] at h; cases h) haj.apart
      have hap9 : va3.ownBlock = none ∨ va3.ownBlock ≠ u8.ownBlock := by
        cases hu : va3.ownBlock with
        | none => exact Or.inl rfl
        | some k =>
          right
          rcases ho9 with h2 | h2
          · rw [hu] at h2
            rcases hapj with h | h
            · rw [h2]; exact h
            · rw [h] at h2; cases h2
          · rw [hu] at h2; injection h2 with h2
            intro e
            have := (hvl k e.symm).2
            omega
      have hB9 := hb9.size
      have hvl9 : ∀ k, u8.ownBlock = some k → w.heap.size ≤ k := fun k hk => (hvl k hk).1
      have hsrc9 := (HS2.out.below hb9).src (G := fun k => k < w.heap.size) hB9 Z2.out (fun _ h => h)
      clear haj hvj hsrc hbj hg9 ho9 hapj hvl hal hszj
      go_wp2_with (at_builtin; go_loud (refine wpList_append_steps rfl _ _ rfl w.heap.size (fun k => k < w.heap.size) _ _ _ rfl hv9 A2 n2 c2 more rfl hsrc9 (by omega) hB9 ?_))
      intro vb3 w10 hb10 hg10 _
      have ha10 := ha9.grown hg10 hap9 hv9.apart
      have hbw := hb9.grown hg10 hB9 hvl9
      clear ha9 hv9 hsrc9 hb9 hg10 hap9 hvl9 hB9
      have ha10' : OwnSteps w10 w.heap.size (fun k => k < w.heap.size) va3 (n1 + 1 + n2) (l ++ [unAll] ++ more) := by simpa [Nat.add_assoc] using ha10
      have hb10' : OwnSteps w10 w.heap.size (fun k => k < w.heap.size) vb3 (n1 + 1 + j + n2) (l ++ [unAll] ++ List.replicate j unOne ++ more) := by simpa [Nat.add_assoc] using hb10
      clear ha10 hb10
      have ha10 := ha10'
      have hb10 := hb10'
      clear ha10' hb10'
      obtain ⟨A10, c10, rfl, hat10, _⟩ := ha10.at_
      have hf1 : Fine (l ++ [unAll] ++ more) := by
        have f1 := HFI.out; have f2 := HFI2.out
        refine ⟨by simp only [List.length_append, List.length_cons, List.length_nil]; have := HS1.out.len; have := HS2.out.len; omega, ?_, ?_, ?_⟩
        · rw [cost_append, cost_append, show cost [unAll] = 1 from rfl]; omega
        · exact ListsOK.app (ListsOK.app f1.plain (by intro s hs; simp at hs; subst hs; exact plain_none)) f2.plain
        · exact ListsOK.app (ListsOK.app f1.small small_one) f2.small
      have hf2 : Fine (l ++ [unAll] ++ List.replicate j unOne ++ more) := by
        have f1 := HFI.out; have f2 := HFI2.out
        have hrp : ∀ s ∈ List.replicate j unOne, s = unOne := fun s hs => List.eq_of_mem_replicate hs
        refine ⟨by simp only [List.length_append, List.length_cons, List.length_nil, List.length_replicate]; have := HS1.out.len; have := HS2.out.len; omega, ?_, ?_, ?_⟩
        · rw [cost_append, cost_append, cost_append, show cost [unAll] = 1 from rfl, show cost (List.replicate j unOne) = j from cost_rep _ _ _]; omega
        · exact ListsOK.app (ListsOK.app (ListsOK.app f1.plain (by intro s hs; simp at hs; subst hs; exact plain_none)) (by intro s hs; rw [hrp s hs]; exact plain_none)) f2.plain
        · exact ListsOK.app (ListsOK.app (ListsOK.app f1.small small_one) (by intro s hs; rw [hrp s hs]; exact ⟨Nat.zero_le _, fun t ht => by simp [unOne] at ht⟩)) f2.small
      have HF1 := Lib.hid hf1
      have HF2' := Lib.hid hf2
      obtain ⟨o, ho⟩ : ∃ o : ByteArray, o = ⟨(drawD plainStyle (played (l ++ [unAll] ++ more))).toArray⟩ := ⟨_, rfl⟩
      obtain ⟨o2, ho2⟩ : ∃ o : ByteArray, o = ⟨(htmlAll (bl (classOf ⟨#[]⟩)) (played (l ++ [unAll] ++ more))).toArray⟩ := ⟨_, rfl⟩
      have HO := Lib.hid ho
      have HO2 := Lib.hid ho2
      have HOb := Lib.hid (show (⟨(drawD plainStyle (played (l ++ [unAll] ++ List.replicate j unOne ++ more))).toArray⟩ : ByteArray) = o by rw [played_un, ho])
      have HO2b := Lib.hid (show (⟨(htmlAll (bl (classOf ⟨#[]⟩)) (played (l ++ [unAll] ++ List.replicate j unOne ++ more))).toArray⟩ : ByteArray) = o2 by rw [played_un, ho2])
      clear ho ho2 hf1 hf2
      go_wp2_with fail
      refine (listPlain_any _ _ _ (l ++ [unAll] ++ more) _ hat10 HF1.out.cost (by have := HF1.out.len; omega) HF1.out.plain HF1.out.drawn).mono ?_
      rintro e w11 ⟨rfl, hb11⟩
      rw [← HO.out]
      have ha11 := ha10.below hb11
      have hv11 := hb10.below hb11
      have hbw11 := hbw.trans (hb11.mono hbw.size)
      clear ha10 hb10 hbw hb11 hat10
      obtain ⟨A11, c11, rfl, hat11, _⟩ := hv11.at_
      go_wp2_with fail
      refine (listPlain_any _ _ _ (l ++ [unAll] ++ List.replicate j unOne ++ more) _ hat11 HF2'.out.cost (by have := HF2'.out.len; omega) HF2'.out.plain HF2'.out.drawn).mono ?_
      rintro e w12 ⟨rfl, hb12⟩
      rw [HOb.out]
      have ha12 := ha11.below hb12
      have hv12 := hv11.below hb12
      have hbw12 := hbw11.trans (hb12.mono hbw11.size)
      clear ha11 hv11 hbw11 hb12 hat11
      obtain ⟨A12, c12, hv12e, hat12, _⟩ := ha12.at_
      injection hv12e with e1 e2 e3
      subst e1 e3
      clear e2
      go_wp2_with fail
      refine (listHTML_any _ _ _ (l ++ [unAll] ++ more) ⟨#[]⟩ _ hat12 HF1.out.cost (by have := HF1.out.len; omega) HF1.out.plain HF1.out.html (by decide)).mono ?_
      rintro e w13 ⟨rfl, hb13⟩
      rw [← HO2.out]
      have hv13 := hv12.below hb13
      have hbw13 := hbw12.trans (hb13.mono hbw12.size)
      clear ha12 hv12 hbw12 hb13 hat12
      obtain ⟨A13, c13, hv13e, hat13, _⟩ := hv13.at_
      injection hv13e with e1 e2 e3
      subst e1 e3
      clear e2
      go_wp2_with fail
      refine (listHTML_any _ _ _ (l ++ [unAll] ++ List.replicate j unOne ++ more) ⟨#[]⟩ _ hat13 HF2'.out.cost (by have := HF2'.out.len; omega) HF2'.out.plain HF2'.out.html (by decide)).mono ?_
      rintro e w14 ⟨rfl, hb14'⟩
      rw [HO2b.out]
      have hbw14 := hbw13.trans (hb14'.mono hbw13.size)
      clear hv13 hbw13 hb14' hat13
      go_wp2_with fail
      refine (alive_any _).mono ?_
      rintro e w15 ⟨rfl, hb15⟩
      have hbw15 := hbw14.trans (hb15.mono hbw14.size)
      go_wp2
      go_ret
      exact ⟨rfl, hbw15⟩
end Go.Proofs.YtaebdgjebdjlaaaDoor
