/- Walk of laws.FnListsIndents: it answers true and writes nothing that was there. No condition. -/
import Derived.Test.YtccbjmmggolhnaaDoorLt
import Derived.Test.YtccbjmmggolhnaaDoorListsUn
import Derived.Deep.QuietTactic
import Derived.BigQuiet
namespace Go.Proofs.YtccbjmmggolhnaaDoor
open Go.RowKit

theorem flatI_at' {l : List (ByteArray × Nat)} : ∀ {k : Nat} {x : ByteArray × Nat}, l[k]? = some x → (flatI l)[2 * k]? = some (.string x.1) ∧ (flatI l)[2 * k + 1]? = some (.int .i64 x.2) := by
  induction l with
  | nil => intro k x h; simp at h
  | cons y l ih =>
    intro k x h
    match k, h with
    | 0, h => simp at h; subst h; exact ⟨rfl, rfl⟩
    | k + 1, h =>
      have h2 := ih (k := k) (x := x) (by simpa using h)
      show ((.string y.1 :: .int .i64 y.2 :: flatI l : List Value))[2 * (k + 1)]? = _ ∧ ((.string y.1 :: .int .i64 y.2 :: flatI l : List Value))[2 * (k + 1) + 1]? = _
      rw [show 2 * (k + 1) = 2 * k + 1 + 1 by omega, List.getElem?_cons_succ, List.getElem?_cons_succ, List.getElem?_cons_succ, List.getElem?_cons_succ]
      exact h2
theorem OwnItems.at' {w : World} {B : Nat} {v : Value} {l : List (ByteArray × Nat)} (h : OwnItems w B v l) : ∃ A c, v = .slice A l.length c ∧ ItemsAt w w.heap.size A l.length c l := by
  obtain ⟨A, c, hv, hr⟩ := own_rd h
  exact ⟨A, c, hv, _, hr, rfl, fun k x hx => flatI_at' hx⟩

/-- Levels never run ahead. -/
def okSt (st : List (ByteArray × Nat) × Nat) : Prop := (st.1 = [] → st.2 = 0) ∧ (st.1 ≠ [] → st.2 ≤ lastLevel st.1 + 1)
theorem lastLevel_snoc (l : List (ByteArray × Nat)) (x : ByteArray × Nat) : lastLevel (l ++ [x]) = x.2 := by simp [lastLevel]
theorem last_map (l : List (ByteArray × Nat)) (ts : List ByteArray) (lv : Nat) (h : ts ≠ []) : lastLevel (l ++ ts.map (fun t => (t, lv))) = lv := by
  obtain ⟨r, t, rfl⟩ : ∃ r t, ts = r ++ [t] := ⟨ts.dropLast, ts.getLast h, (List.dropLast_concat_getLast h).symm⟩
  rw [List.map_append, ← List.append_assoc]
  exact lastLevel_snoc _ _
theorem okSt_step {st : List (ByteArray × Nat) × Nat} (h : okSt st) (s : Step) : okSt (playStep st s) := by
  obtain ⟨h1, h2⟩ := h
  obtain ⟨l, lv⟩ := st
  dsimp only at h1 h2
  unfold playStep
  split
  · exact ⟨fun e => by simp at e, fun _ => by show lv ≤ lastLevel (l ++ [(s.text, lv)]) + 1; rw [lastLevel_snoc]; omega⟩
  · split
    · by_cases ht : s.texts = []
      · rw [ht]; simp only [List.map_nil, List.append_nil]; exact ⟨h1, h2⟩
      · exact ⟨fun e => by simp [ht] at e, fun _ => by show lv ≤ lastLevel (l ++ s.texts.map _) + 1; rw [last_map _ _ _ ht]; omega⟩
    · split
      · split
        · next hc => exact ⟨fun e => by have := hc.1; dsimp only at e this; rw [e] at this; simp at this, fun _ => by have := hc.2; dsimp only at this ⊢; omega⟩
        · exact ⟨h1, h2⟩
      · split
        · exact ⟨fun e => by have := h1 e; dsimp only; omega, fun e => by have := h2 e; dsimp only; omega⟩
        · split
          · exact ⟨fun _ => rfl, fun _ => Nat.zero_le _⟩
          · split
            · exact ⟨fun _ => rfl, fun e => absurd rfl e⟩
            · exact ⟨h1, h2⟩
theorem okSt_fold : ∀ (l : List Step) (st : List (ByteArray × Nat) × Nat), okSt st → okSt (l.foldl playStep st)
  | [], _, h => h
  | s :: l, st, h => okSt_fold l _ (okSt_step h s)
theorem played_item (a : List Step) (t : ByteArray) : ∃ its lv, played (a ++ [⟨0, t, []⟩]) = its ++ [(t, lv)] ∧ (its = [] → lv = 0) ∧ (its ≠ [] → lv ≤ lastLevel its + 1) := by
  have h := okSt_fold a ([], 0) ⟨fun _ => rfl, fun e => absurd rfl e⟩
  refine ⟨(a.foldl playStep ([], 0)).1, (a.foldl playStep ([], 0)).2, ?_, h⟩
  unfold played
  rw [List.foldl_append]
  rfl
theorem last_get {l : List (ByteArray × Nat)} (h : l ≠ []) : ∃ x, l[l.length - 1]? = some x ∧ x.2 = lastLevel l := by
  obtain ⟨r, x, rfl⟩ : ∃ r x, l = r ++ [x] := ⟨l.dropLast, l.getLast h, (List.dropLast_concat_getLast h).symm⟩
  exact ⟨x, by simp, (lastLevel_snoc r x).symm⟩
def inOne : Step := ⟨2, ⟨#[]⟩, []⟩
theorem simple_weak {s : ByteArray} (h : simpleB s false = true) : simpleB s true = true := by
  unfold simpleB at *
  rw [List.all_eq_true] at *
  intro r hr
  have := h r hr
  unfold okB at *
  simp at this ⊢
  exact Or.inl this
theorem star_facts (p nl : ByteArray) : ∀ r ∈ runes (starSt p nl).vert, r ≠ 10 ∧ wideB r = false := by
  intro r hr
  have e : runes (starSt p nl).vert = [32, 32] := by
    show runes ⟨[32, 32].toArray⟩ = _
    rw [runes_mk [32, 32] (by decide)]
    rfl
  rw [e] at hr
  simp at hr
  subst hr
  decide
theorem star_small (nl : ByteArray) (h : nl.size ≤ 20) : styleSmall (starSt ⟨#[]⟩ nl) := ⟨rfl, Nat.le_of_ble_eq_true rfl, Nat.le_of_ble_eq_true rfl, Nat.le_of_ble_eq_true rfl, Nat.le_of_ble_eq_true rfl, Nat.le_of_ble_eq_true rfl, Nat.le_of_ble_eq_true rfl, h, Nat.le_of_ble_eq_true rfl⟩

set_option maxRecDepth 100000 in
set_option maxHeartbeats 16000000 in
theorem listsIndents_any (A1 : Option Addr) (n1 c1 : Nat) (l : List Step) (text : ByteArray) (x : Int) (w : World) (h1 : StepsAt w w.heap.size A1 n1 c1 l) (z1 : A1 = none → n1 = 0 ∧ c1 = 0) (hx : 0 ≤ x ∧ x ≤ 255) :
    Calls Tryd.prog 3 #[.slice A1 n1 c1, .string text, .int .u8 x] w fun e w' => e = .returned (.bool true) ∧ Below w.heap.size w w' := by
  obtain ⟨hx0, hx1⟩ := hx
  cases hf : fitStepsB l with
  | false =>
    have HF := Lib.hid hf
    clear hf
    go_enter Tryd.func3, Tryd.ntmps3
    go_wp2_with fail
    refine (fitSteps_any _ _ _ l _ h1).mono ?_
    rintro e w1 ⟨rfl, hb1⟩
    rw [HF.out]
    go_wp2
    go_ret
    exact ⟨rfl, hb1⟩
  | true =>
  have HF := Lib.hid hf
  clear hf
  by_cases hz1 : text.size ≤ 2147483647
  case neg =>
    go_enter Tryd.func3, Tryd.ntmps3
    go_wp2_with fail
    refine (fitSteps_any _ _ _ l _ h1).mono ?_
    rintro e w1 ⟨rfl, hb1⟩
    rw [HF.out]
    go_wp2
    go_ret
    exact ⟨rfl, hb1⟩
  go_enter Tryd.func3, Tryd.ntmps3
  go_wp2_with fail
  refine (fitSteps_any _ _ _ l _ h1).mono ?_
  rintro e w1 ⟨rfl, hb1⟩
  rw [HF.out]
  have g1 := (h1.below hb1).more hb1.size
  cases hr : rightB l with
  | false =>
    have HR := Lib.hid hr
    clear hr
    go_wp2_with fail
    refine (right_any _ _ _ l _ g1).mono ?_
    rintro e w3 ⟨rfl, hb3⟩
    rw [HR.out]
    have hb13 := hb1.trans (hb3.mono hb1.size)
    go_wp2
    go_ret
    exact ⟨rfl, hb13⟩
  | true =>
  have HR := Lib.hid hr
  have HFI := Lib.hid (Fine.of_right hr)
  have HSI := Lib.hid hr
  have hl80 := (right_plain hr).2.2
  have hc80 := (right_plain hr).2.1
  clear hr
  by_cases hz2 : text.size ≤ 200
  case neg =>
    go_wp2_with fail
    refine (right_any _ _ _ l _ g1).mono ?_
    rintro e w3 ⟨rfl, hb3⟩
    rw [HR.out]
    have hb13 := hb1.trans (hb3.mono hb1.size)
    go_wp2
    go_ret
    exact ⟨rfl, hb13⟩
  cases hs : simpleB text false with
  | false =>
    have HS := Lib.hid hs
    clear hs
    go_wp2_with fail
    refine (right_any _ _ _ l _ g1).mono ?_
    rintro e w3 ⟨rfl, hb3⟩
    rw [HR.out]
    have hb13 := hb1.trans (hb3.mono hb1.size)
    go_wp2_with fail
    refine (simple_any text false _).mono ?_
    rintro e w4 ⟨rfl, hb4⟩
    rw [HS.out]
    have hb14 := hb13.trans (hb4.mono hb13.size)
    go_wp2
    go_ret
    exact ⟨rfl, hb14⟩
  | true =>
  have HS := Lib.hid hs
  have hitem : rightB [⟨0, text, []⟩] = true := by
    unfold rightB stepRightB textB
    simp [hz2, simple_weak hs]
  have HFI2 := Lib.hid (Fine.of_right hitem)
  have HSI2 := Lib.hid hitem
  clear hs hitem
  go_wp2_with fail
  refine (right_any _ _ _ l _ g1).mono ?_
  rintro e w3 ⟨rfl, hb3⟩
  rw [HR.out]
  have hb13 := hb1.trans (hb3.mono hb1.size)
  go_wp2_with fail
  refine (simple_any text false _).mono ?_
  rintro e w4 ⟨rfl, hb4⟩
  rw [HS.out]
  have hb14 := hb13.trans (hb4.mono hb13.size)
  have hn1 : n1 ≤ 80 := by rw [← h1.len]; exact hl80
  have hB4 : w.heap.size ≤ w4.heap.size := hb14.size
  have s1 := h1.below hb14
  have HS1 := Lib.hid s1
  have Z1 := Lib.hid z1
  clear h1 s1 z1 g1 hb1 hb3 hb13 hb4
  have hlit := OwnSteps.fresh (w := w4) hB4
  have hbl4 := hb14.alloc hB4 (.cells #[] 27)
  have hsr1 := (HS1.out.below ((Below.refl _ w4).alloc (Nat.le_refl _) (.cells #[] 27) |>.mono hB4)).src (G := fun k => k < w.heap.size) (by simp; omega) Z1.out (fun _ h => h)
  go_wp2_with (at_builtin; go_loud (refine wpList_append_steps rfl _ _ rfl w.heap.size (fun k => k < w.heap.size) _ _ _ rfl hlit A1 n1 c1 l rfl hsr1 (by omega) (by simp; omega) ?_))
  intro va w5 ha hg5 ho5
  have hb5 := hbl4.grown hg5 (by simp; omega) (fun k hk => by have : some w4.heap.size = some k := hk; injection this with this; omega)
  clear hlit hbl4 hsr1 hg5 ho5 hb14
  obtain ⟨r, hr⟩ : ∃ r : Nat, 1 + x % 5 = (r : Int) := ⟨(1 + x % 5).toNat, by omega⟩
  have hr5 : r ≤ 5 := by omega
  go_wp2_with fail
  go_loopw [7, 38] (fun v7 v38 wr => ∃ j : Nat, j ≤ r ∧ v38 = .int .i64 j ∧ OwnSteps wr w.heap.size (fun k => k < w.heap.size) v7 (n1 + j) (l ++ List.replicate j inOne) ∧ Below w.heap.size w wr) (fun _ v38 _ => r - (intOf v38).toNat)
  case atStart => exact ⟨0, Nat.zero_le _, rfl, by simpa using ha, hb5⟩
  case round =>
    obtain ⟨j, hj, rfl, hvj, hbj⟩ := hrel
    clear ha hb5
    have hszj := hbj.size
    have hvl : ∀ k, u7.ownBlock = some k → w.heap.size ≤ k := fun k hk => (hvj.lt hk).1
    by_cases hlt : j < r
    · have hji : (j : Int) < 1 + x % 5 := by omega
      have hvA := hvj.below ((Below.refl _ wr).alloc (Nat.le_refl _) (.cells #[.int .i64 2, .string ⟨#[]⟩, .slice none 0 0] 27))
      have hbA := hbj.alloc hszj (.cells #[.int .i64 2, .string ⟨#[]⟩, .slice none 0 0] 27)
      have hsrc := src_one wr (fun k => k < w.heap.size) 2 ⟨#[]⟩
      clear hvj
      go_wp2_with (at_builtin; go_loud (refine wpList_append_steps rfl _ _ rfl w.heap.size (fun k => k < w.heap.size) _ _ _ rfl hvA (some ⟨wr.heap.size, 0, none⟩) 1 1 [inOne] rfl hsrc (by omega) (by simp; omega) ?_))
      intro v' w8 hv' hg8 ho8
      have hb8 := hbA.grown hg8 (by simp; omega) hvl
      clear hvA hbA hsrc hg8 ho8 hbj hvl
      go_wp2
      go_roundw
      case rel => exact ⟨j + 1, by omega, by go_num, by rw [List.replicate_succ']; simpa [Nat.add_assoc] using hv', hb8⟩
      case measure => simp [intOf]; omega
    · have hjr : j = r := by omega
      subst hjr
      have hji : ¬ (j : Int) < 1 + x % 5 := by omega
      have hr5' : j ≤ 5 := by omega
      have hvA := hvj.below ((Below.refl _ wr).alloc (Nat.le_refl _) (.cells #[.int .i64 0, .string text, .slice none 0 0] 27))
      have hbA := hbj.alloc hszj (.cells #[.int .i64 0, .string text, .slice none 0 0] 27)
      have hsrc := src_one wr (fun k => k < w.heap.size) 0 text
      clear hvj
      go_wp2_with (at_builtin; go_loud (refine wpList_append_steps rfl _ _ rfl w.heap.size (fun k => k < w.heap.size) _ _ _ rfl hvA (some ⟨wr.heap.size, 0, none⟩) 1 1 [⟨0, text, []⟩] rfl hsrc (by omega) (by simp; omega) ?_))
      intro v' w8 hv' hg8 ho8
      have hb8 := hbA.grown hg8 (by simp; omega) hvl
      clear hvA hbA hsrc hg8 ho8 hbj hvl
      obtain ⟨al, hal⟩ : ∃ al, al = l ++ List.replicate j inOne ++ [(⟨0, text, []⟩ : Step)] := ⟨_, rfl⟩
      have hv2 : OwnSteps w8 w.heap.size (fun k => k < w.heap.size) v' (n1 + j + 1) al := by rw [hal]; simpa [Nat.add_assoc] using hv'
      clear hv'
      have hv' := hv2
      clear hv2
      have HAL := Lib.hid hal
      have hfa : Fine al := by
        have f1 := HFI.out; have f2 := HFI2.out
        rw [hal]
        have hrp : ∀ s ∈ List.replicate j inOne, s = inOne := fun s hs => List.eq_of_mem_replicate hs
        refine ⟨by simp only [List.length_append, List.length_cons, List.length_nil, List.length_replicate]; have := HS1.out.len; omega, ?_, ?_, ?_⟩
        · rw [cost_append, cost_append, show cost (List.replicate j inOne) = j from cost_rep _ _ _, show cost [(⟨0, text, []⟩ : Step)] = 1 from rfl]; omega
        · exact ListsOK.app (ListsOK.app f1.plain (by intro s hs; rw [hrp s hs]; exact plain_none)) f2.plain
        · exact ListsOK.app (ListsOK.app f1.small (by intro s hs; rw [hrp s hs]; exact ⟨Nat.zero_le _, fun t ht => by simp [inOne] at ht⟩)) f2.small
      have hsa : ∀ y ∈ played al, simpleB y.1 true = true := by
        rw [hal]
        have key : ∀ s ∈ l ++ List.replicate j inOne ++ [⟨0, text, []⟩], simpleB s.text true = true ∧ ∀ t ∈ s.texts, simpleB t true = true := by
          have kk : ∀ {q : List Step}, rightB q = true → ∀ s ∈ q, simpleB s.text true = true ∧ ∀ t ∈ s.texts, simpleB t true = true := by
            intro q hq s hs
            unfold rightB at hq
            simp only [Bool.and_eq_true] at hq
            have h1 := List.all_eq_true.1 hq.1 s hs
            unfold stepRightB at h1
            simp only [Bool.and_eq_true] at h1
            have kt : ∀ t, textB t = true → simpleB t true = true := fun t ht => by unfold textB at ht; simp only [Bool.and_eq_true] at ht; exact ht.2
            exact ⟨kt _ h1.1, fun t ht => kt _ (List.all_eq_true.1 h1.2.2 t ht)⟩
          refine ListsOK.app (ListsOK.app (kk HSI.out) (fun s hs => ?_)) (kk HSI2.out)
          rw [List.eq_of_mem_replicate hs]
          refine ⟨?_, fun t ht => by simp [inOne] at ht⟩
          show simpleB ⟨#[]⟩ true = true
          unfold simpleB
          rw [show runes ⟨#[]⟩ = [] from runesFrom_end (by decide)]
          rfl
        exact played_texts (p := fun t => simpleB t true = true) key
      obtain ⟨its, lv, hpl, hi0, hi1⟩ := played_item (l ++ List.replicate j inOne) text
      rw [← hal] at hpl
      have HFA := Lib.hid hfa
      have HSA := Lib.hid hsa
      obtain ⟨o, ho⟩ : ∃ o, o = mkB (drawD plainStyle (played al)) := ⟨_, rfl⟩
      have HO := Lib.hid (show (⟨(drawD plainStyle (played al)).toArray⟩ : ByteArray) = o from ho.symm)
      have HO2 := Lib.hid (show mkB (drawnT (starSt ⟨#[]⟩ ⟨#[10]⟩) (played al)) = o by
        rw [ho, drawn_eq (star_facts _ _) (Or.inl rfl) hsa]; rfl)
      have HC := Lib.hid (show cost al ≤ 1099511627776 by have := hfa.cost; omega)
      have HPL := Lib.hid hpl
      have hmn : ∃ mn, mn = (played al).length := ⟨_, rfl⟩
      obtain ⟨mn, hmn⟩ := hmn
      have hmn2 : mn ≤ 2000 := by rw [hmn]; exact hfa.drawn.1
      have HI0 := Lib.hid (show mn = its.length + 1 by rw [hmn, hpl]; simp)
      have HI1 := Lib.hid hi0
      have HI2 := Lib.hid hi1
      have HMN := Lib.hid hmn
      clear hal hfa hsa hpl hi0 hi1 ho hmn
      obtain ⟨A8, c8, rfl, hat8, _⟩ := hv'.at_
      go_wp2_with fail
      refine (played_any A8 _ c8 al _ hat8 HC.out).mono ?_
      rintro e w9 ⟨v9, rfl, hown9, hb9⟩
      obtain ⟨A9, c9, rfl, hit9⟩ := hown9.at'
      rw [← HMN.out] at hit9 ⊢
      have hbw9 := hb8.trans (hb9.mono hb8.size)
      have hat9 := (hat8.below hb9).more hb9.size
      clear hv' hb8 hb9 hown9 hat8
      --R13
      go_upto_region 13 with (fail)
      go_cut [86] (fun v86 wx => v86 = .bool false ∧ Below w9.heap.size w9 wx)
      case first =>
        cases hk : its.length with
        | zero =>
          have hits : its = [] := List.eq_nil_of_length_eq_zero hk
          have hm1 : mn = 1 := by rw [HI0.out, hk]
          obtain ⟨ad, y, hade, _, hy, _, hcy⟩ := hit9.at_ (k := 0) (by omega)
          subst hade
          have hy2 : y.2 = 0 := by
            rw [HPL.out, hits] at hy
            simp at hy
            rw [← hy]
            exact HI1.out hits
          rw [hy2] at hcy
          have hA0 : ad.add (0 * 2) = ad := by simp [Addr.add]
          rw [hA0] at hcy
          have hcy : w9.cell? ⟨ad.block, ad.off + 1, none⟩ = some (.int .i64 0) := hcy
          subst hm1
          have hcast : ((1 : Nat) : Int) = 1 := rfl
          rw [hcast]
          have e4 : (0 : Int) < 1 := by omega
          clear hits hy hy2 hk hit9 hat9 hcast hA0
          go_wp2_with fail
          refine wp_region_held_drew (S := (fun w' => w'.cell? ⟨ad.block, ad.off + 1, none⟩ = some (.int .i64 0))) (by kernel_rfl) hcy (fun hHeld => ?_)
          refine wpAnyH_take (i := 0) (oi := { dst := some 54, op := Op.move (Operand.tmp 9), type := 3, pos := "laws_lists_wt04c.go:147", after := #[], guard := none }) (v := ?va1) rfl (by kernel_rfl) (by kernel_rfl) (by kernel_rfl) (fun _ _ _ h => h) (Or.inl ⟨by rfl, ?hy1⟩) (by assumption) ?re1
          case hy1 => (intro w hSw; (try dsimp only at hSw); go_simp; try with_reducible rfl)
          try simp only [Act.put, List.setIfInBounds_toArray, List.set_cons_zero, List.set_cons_succ]
          refine wpAnyH_take (i := 1) (oi := { dst := some 55, op := Op.binOp BinOp.eql 3 (Operand.tmp 54) (Operand.const (Value.int IntKind.i64 0)) 3, type := 4, pos := "laws_lists_wt04c.go:147", after := #[{ on := 0, ground := Ground.data }], guard := none }) (v := ?va2) rfl (by kernel_rfl) (by kernel_rfl) (by kernel_rfl) (fun _ _ _ h => h) (Or.inl ⟨by rfl, ?hy2⟩) (by assumption) ?re2
          case hy2 => (intro w hSw; (try dsimp only at hSw); go_simp; try with_reducible rfl)
          try simp only [Act.put, List.setIfInBounds_toArray, List.set_cons_zero, List.set_cons_succ]
          refine wpAnyH_take (i := 2) (oi := { dst := some 56, op := Op.move (Operand.tmp 55), type := 4, pos := "laws_lists_wt04c.go:147", after := #[{ on := 1, ground := Ground.data }], guard := none }) (v := ?va3) rfl (by kernel_rfl) (by kernel_rfl) (by kernel_rfl) (fun _ _ _ h => h) (Or.inl ⟨by rfl, ?hy3⟩) (by assumption) ?re3
          case hy3 => (intro w hSw; (try dsimp only at hSw); go_simp; try with_reducible rfl)
          try simp only [Act.put, List.setIfInBounds_toArray, List.set_cons_zero, List.set_cons_succ]
          refine wpAnyH_take (i := 3) (oi := { dst := some 57, op := Op.move (Operand.tmp 9), type := 3, pos := "laws_lists_wt04c.go:147", after := #[{ on := 2, ground := Ground.guard }], guard := some (2, false) }) (v := ?va4) rfl (by kernel_rfl) (by kernel_rfl) (by kernel_rfl) (fun _ _ _ h => h) (Or.inl ⟨by rfl, ?hy4⟩) (by assumption) ?re4
          case hy4 => (intro w hSw; (try dsimp only at hSw); go_simp; try with_reducible rfl)
          try simp only [Act.put, List.setIfInBounds_toArray, List.set_cons_zero, List.set_cons_succ]
          refine wpAnyH_take (i := 4) (oi := { dst := some 58, op := Op.binOp BinOp.gtr 3 (Operand.tmp 57) (Operand.const (Value.int IntKind.i64 1)) 3, type := 4, pos := "laws_lists_wt04c.go:147", after := #[{ on := 3, ground := Ground.data }, { on := 2, ground := Ground.guard }], guard := some (2, false) }) (v := ?va5) rfl (by kernel_rfl) (by kernel_rfl) (by kernel_rfl) (fun _ _ _ h => h) (Or.inl ⟨by rfl, ?hy5⟩) (by assumption) ?re5
          case hy5 => (intro w hSw; (try dsimp only at hSw); go_simp; try with_reducible rfl)
          try simp only [Act.put, List.setIfInBounds_toArray, List.set_cons_zero, List.set_cons_succ]
          refine wpAnyH_take (i := 5) (oi := { dst := some 59, op := Op.move (Operand.tmp 58), type := 4, pos := "laws_lists_wt04c.go:147", after := #[{ on := 4, ground := Ground.data }, { on := 2, ground := Ground.chain }, { on := 2, ground := Ground.guard }], guard := some (2, false) }) (v := ?va6) rfl (by kernel_rfl) (by kernel_rfl) (by kernel_rfl) (fun _ _ _ h => h) (Or.inl ⟨by rfl, ?hy6⟩) (by assumption) ?re6
          case hy6 => (intro w hSw; (try dsimp only at hSw); go_simp; try with_reducible rfl)
          try simp only [Act.put, List.setIfInBounds_toArray, List.set_cons_zero, List.set_cons_succ]
          refine wpAnyH_take (i := 6) (oi := { dst := some 60, op := Op.move (Operand.tmp 8), type := 28, pos := "laws_lists_wt04c.go:147", after := #[{ on := 5, ground := Ground.guard }], guard := some (5, true) }) (v := undef) rfl (by kernel_rfl) (by kernel_rfl) (by kernel_rfl) (fun _ _ _ h => h) (Or.inr ⟨by rfl, rfl⟩) (by assumption) ?_
          try simp only [Act.put, List.setIfInBounds_toArray, List.set_cons_zero, List.set_cons_succ]
          refine wpAnyH_take (i := 7) (oi := { dst := some 61, op := Op.move (Operand.tmp 9), type := 3, pos := "laws_lists_wt04c.go:147", after := #[{ on := 5, ground := Ground.guard }], guard := some (5, true) }) (v := undef) rfl (by kernel_rfl) (by kernel_rfl) (by kernel_rfl) (fun _ _ _ h => h) (Or.inr ⟨by rfl, rfl⟩) (by assumption) ?_
          try simp only [Act.put, List.setIfInBounds_toArray, List.set_cons_zero, List.set_cons_succ]
          refine wpAnyH_take (i := 8) (oi := { dst := some 62, op := Op.binOp BinOp.sub 3 (Operand.tmp 61) (Operand.const (Value.int IntKind.i64 1)) 3, type := 3, pos := "laws_lists_wt04c.go:147", after := #[{ on := 7, ground := Ground.data }, { on := 5, ground := Ground.guard }], guard := some (5, true) }) (v := undef) rfl (by kernel_rfl) (by kernel_rfl) (by kernel_rfl) (fun _ _ _ h => h) (Or.inr ⟨by rfl, rfl⟩) (by assumption) ?_
          try simp only [Act.put, List.setIfInBounds_toArray, List.set_cons_zero, List.set_cons_succ]
          refine wpAnyH_take (i := 9) (oi := { dst := some 63, op := Op.indexAddr 28 (Operand.tmp 60) (Operand.tmp 62), type := 0, pos := "laws_lists_wt04c.go:147", after := #[{ on := 6, ground := Ground.data }, { on := 8, ground := Ground.data }, { on := 5, ground := Ground.guard }], guard := some (5, true) }) (v := undef) rfl (by kernel_rfl) (by kernel_rfl) (by kernel_rfl) (fun _ _ _ h => h) (Or.inr ⟨by rfl, rfl⟩) (by assumption) ?_
          try simp only [Act.put, List.setIfInBounds_toArray, List.set_cons_zero, List.set_cons_succ]
          refine wpAnyH_take (i := 10) (oi := { dst := some 64, op := Op.fieldAddr 31 (Operand.tmp 63) 1, type := 0, pos := "laws_lists_wt04c.go:147", after := #[{ on := 9, ground := Ground.data }, { on := 5, ground := Ground.guard }], guard := some (5, true) }) (v := undef) rfl (by kernel_rfl) (by kernel_rfl) (by kernel_rfl) (fun _ _ _ h => h) (Or.inr ⟨by rfl, rfl⟩) (by assumption) ?_
          try simp only [Act.put, List.setIfInBounds_toArray, List.set_cons_zero, List.set_cons_succ]
          refine wpAnyH_take (i := 11) (oi := { dst := some 65, op := Op.load 3 (Operand.tmp 64), type := 3, pos := "laws_lists_wt04c.go:147", after := #[{ on := 10, ground := Ground.data }, { on := 5, ground := Ground.guard }], guard := some (5, true) }) (v := undef) rfl (by kernel_rfl) (by kernel_rfl) (by kernel_rfl) (fun _ _ _ h => h) (Or.inr ⟨by rfl, rfl⟩) (by assumption) ?_
          try simp only [Act.put, List.setIfInBounds_toArray, List.set_cons_zero, List.set_cons_succ]
          refine wpAnyH_take (i := 12) (oi := { dst := some 66, op := Op.move (Operand.tmp 8), type := 28, pos := "laws_lists_wt04c.go:147", after := #[{ on := 5, ground := Ground.guard }], guard := some (5, true) }) (v := undef) rfl (by kernel_rfl) (by kernel_rfl) (by kernel_rfl) (fun _ _ _ h => h) (Or.inr ⟨by rfl, rfl⟩) (by assumption) ?_
          try simp only [Act.put, List.setIfInBounds_toArray, List.set_cons_zero, List.set_cons_succ]
          refine wpAnyH_take (i := 13) (oi := { dst := some 67, op := Op.move (Operand.tmp 9), type := 3, pos := "laws_lists_wt04c.go:147", after := #[{ on := 5, ground := Ground.guard }], guard := some (5, true) }) (v := undef) rfl (by kernel_rfl) (by kernel_rfl) (by kernel_rfl) (fun _ _ _ h => h) (Or.inr ⟨by rfl, rfl⟩) (by assumption) ?_
          try simp only [Act.put, List.setIfInBounds_toArray, List.set_cons_zero, List.set_cons_succ]
          refine wpAnyH_take (i := 14) (oi := { dst := some 68, op := Op.binOp BinOp.sub 3 (Operand.tmp 67) (Operand.const (Value.int IntKind.i64 2)) 3, type := 3, pos := "laws_lists_wt04c.go:147", after := #[{ on := 13, ground := Ground.data }, { on := 5, ground := Ground.guard }], guard := some (5, true) }) (v := undef) rfl (by kernel_rfl) (by kernel_rfl) (by kernel_rfl) (fun _ _ _ h => h) (Or.inr ⟨by rfl, rfl⟩) (by assumption) ?_
          try simp only [Act.put, List.setIfInBounds_toArray, List.set_cons_zero, List.set_cons_succ]
          refine wpAnyH_take (i := 15) (oi := { dst := some 69, op := Op.indexAddr 28 (Operand.tmp 66) (Operand.tmp 68), type := 0, pos := "laws_lists_wt04c.go:147", after := #[{ on := 12, ground := Ground.data }, { on := 14, ground := Ground.data }, { on := 5, ground := Ground.guard }], guard := some (5, true) }) (v := undef) rfl (by kernel_rfl) (by kernel_rfl) (by kernel_rfl) (fun _ _ _ h => h) (Or.inr ⟨by rfl, rfl⟩) (by assumption) ?_
          try simp only [Act.put, List.setIfInBounds_toArray, List.set_cons_zero, List.set_cons_succ]
          refine wpAnyH_take (i := 16) (oi := { dst := some 70, op := Op.fieldAddr 31 (Operand.tmp 69) 1, type := 0, pos := "laws_lists_wt04c.go:147", after := #[{ on := 15, ground := Ground.data }, { on := 5, ground := Ground.guard }], guard := some (5, true) }) (v := undef) rfl (by kernel_rfl) (by kernel_rfl) (by kernel_rfl) (fun _ _ _ h => h) (Or.inr ⟨by rfl, rfl⟩) (by assumption) ?_
          try simp only [Act.put, List.setIfInBounds_toArray, List.set_cons_zero, List.set_cons_succ]
          refine wpAnyH_take (i := 17) (oi := { dst := some 71, op := Op.load 3 (Operand.tmp 70), type := 3, pos := "laws_lists_wt04c.go:147", after := #[{ on := 16, ground := Ground.data }, { on := 5, ground := Ground.guard }], guard := some (5, true) }) (v := undef) rfl (by kernel_rfl) (by kernel_rfl) (by kernel_rfl) (fun _ _ _ h => h) (Or.inr ⟨by rfl, rfl⟩) (by assumption) ?_
          try simp only [Act.put, List.setIfInBounds_toArray, List.set_cons_zero, List.set_cons_succ]
          refine wpAnyH_take (i := 18) (oi := { dst := some 72, op := Op.binOp BinOp.add 3 (Operand.tmp 71) (Operand.const (Value.int IntKind.i64 1)) 3, type := 3, pos := "laws_lists_wt04c.go:147", after := #[{ on := 17, ground := Ground.data }, { on := 5, ground := Ground.guard }], guard := some (5, true) }) (v := undef) rfl (by kernel_rfl) (by kernel_rfl) (by kernel_rfl) (fun _ _ _ h => h) (Or.inr ⟨by rfl, rfl⟩) (by assumption) ?_
          try simp only [Act.put, List.setIfInBounds_toArray, List.set_cons_zero, List.set_cons_succ]
          refine wpAnyH_take (i := 19) (oi := { dst := some 73, op := Op.binOp BinOp.gtr 3 (Operand.tmp 65) (Operand.tmp 72) 3, type := 4, pos := "laws_lists_wt04c.go:147", after := #[{ on := 11, ground := Ground.data }, { on := 18, ground := Ground.data }, { on := 5, ground := Ground.guard }], guard := some (5, true) }) (v := undef) rfl (by kernel_rfl) (by kernel_rfl) (by kernel_rfl) (fun _ _ _ h => h) (Or.inr ⟨by rfl, rfl⟩) (by assumption) ?_
          try simp only [Act.put, List.setIfInBounds_toArray, List.set_cons_zero, List.set_cons_succ]
          refine wpAnyH_take (i := 20) (oi := { dst := some 74, op := Op.pick (Operand.tmp 59) (Operand.tmp 73) (Operand.const (Value.bool false)), type := 4, pos := "laws_lists_wt04c.go:147", after := #[{ on := 5, ground := Ground.data }, { on := 19, ground := Ground.data }, { on := 2, ground := Ground.guard }], guard := some (2, false) }) (v := ?va7) rfl (by kernel_rfl) (by kernel_rfl) (by kernel_rfl) (fun _ _ _ h => h) (Or.inl ⟨by rfl, ?hy7⟩) (by assumption) ?re7
          case hy7 => (intro w hSw; (try dsimp only at hSw); go_simp; try with_reducible rfl)
          try simp only [Act.put, List.setIfInBounds_toArray, List.set_cons_zero, List.set_cons_succ]
          refine wpAnyH_take (i := 21) (oi := { dst := some 75, op := Op.pick (Operand.tmp 56) (Operand.const (Value.bool true)) (Operand.tmp 74), type := 4, pos := "laws_lists_wt04c.go:147", after := #[{ on := 2, ground := Ground.data }, { on := 20, ground := Ground.data }], guard := none }) (v := ?va8) rfl (by kernel_rfl) (by kernel_rfl) (by kernel_rfl) (fun _ _ _ h => h) (Or.inl ⟨by rfl, ?hy8⟩) (by assumption) ?re8
          case hy8 => (intro w hSw; (try dsimp only at hSw); go_simp; try with_reducible rfl)
          try simp only [Act.put, List.setIfInBounds_toArray, List.set_cons_zero, List.set_cons_succ]
          refine wpAnyH_take (i := 22) (oi := { dst := some 76, op := Op.move (Operand.tmp 75), type := 4, pos := "laws_lists_wt04c.go:147", after := #[{ on := 21, ground := Ground.data }, { on := 5, ground := Ground.chain }], guard := none }) (v := ?va9) rfl (by kernel_rfl) (by kernel_rfl) (by kernel_rfl) (fun _ _ _ h => h) (Or.inl ⟨by rfl, ?hy9⟩) (by assumption) ?re9
          case hy9 => (intro w hSw; (try dsimp only at hSw); go_simp; try with_reducible rfl)
          try simp only [Act.put, List.setIfInBounds_toArray, List.set_cons_zero, List.set_cons_succ]
          refine wpAnyH_take (i := 23) (oi := { dst := some 77, op := Op.move (Operand.tmp 9), type := 3, pos := "laws_lists_wt04c.go:147", after := #[{ on := 22, ground := Ground.guard }], guard := some (22, false) }) (v := ?va10) rfl (by kernel_rfl) (by kernel_rfl) (by kernel_rfl) (fun _ _ _ h => h) (Or.inl ⟨by rfl, ?hy10⟩) (by assumption) ?re10
          case hy10 => (intro w hSw; (try dsimp only at hSw); go_simp; try with_reducible rfl)
          try simp only [Act.put, List.setIfInBounds_toArray, List.set_cons_zero, List.set_cons_succ]
          refine wpAnyH_take (i := 24) (oi := { dst := some 78, op := Op.binOp BinOp.eql 3 (Operand.tmp 77) (Operand.const (Value.int IntKind.i64 1)) 3, type := 4, pos := "laws_lists_wt04c.go:147", after := #[{ on := 23, ground := Ground.data }, { on := 22, ground := Ground.guard }], guard := some (22, false) }) (v := ?va11) rfl (by kernel_rfl) (by kernel_rfl) (by kernel_rfl) (fun _ _ _ h => h) (Or.inl ⟨by rfl, ?hy11⟩) (by assumption) ?re11
          case hy11 => (intro w hSw; (try dsimp only at hSw); go_simp; try with_reducible rfl)
          try simp only [Act.put, List.setIfInBounds_toArray, List.set_cons_zero, List.set_cons_succ]
          refine wpAnyH_take (i := 25) (oi := { dst := some 79, op := Op.move (Operand.tmp 78), type := 4, pos := "laws_lists_wt04c.go:147", after := #[{ on := 24, ground := Ground.data }, { on := 22, ground := Ground.chain }, { on := 22, ground := Ground.guard }], guard := some (22, false) }) (v := ?va12) rfl (by kernel_rfl) (by kernel_rfl) (by kernel_rfl) (fun _ _ _ h => h) (Or.inl ⟨by rfl, ?hy12⟩) (by assumption) ?re12
          case hy12 => (intro w hSw; (try dsimp only at hSw); go_simp; try with_reducible rfl)
          try simp only [Act.put, List.setIfInBounds_toArray, List.set_cons_zero, List.set_cons_succ]
          refine wpAnyH_take (i := 26) (oi := { dst := some 80, op := Op.move (Operand.tmp 8), type := 28, pos := "laws_lists_wt04c.go:147", after := #[{ on := 25, ground := Ground.guard }], guard := some (25, true) }) (v := ?va13) rfl (by kernel_rfl) (by kernel_rfl) (by kernel_rfl) (fun _ _ _ h => h) (Or.inl ⟨by rfl, ?hy13⟩) (by assumption) ?re13
          case hy13 => (intro w hSw; (try dsimp only at hSw); go_simp; try with_reducible rfl)
          try simp only [Act.put, List.setIfInBounds_toArray, List.set_cons_zero, List.set_cons_succ]
          refine wpAnyH_take (i := 27) (oi := { dst := some 81, op := Op.indexAddr 28 (Operand.tmp 80) (Operand.const (Value.int IntKind.i64 0)), type := 0, pos := "laws_lists_wt04c.go:147", after := #[{ on := 26, ground := Ground.data }, { on := 25, ground := Ground.guard }], guard := some (25, true) }) (v := ?va14) rfl (by kernel_rfl) (by kernel_rfl) (by kernel_rfl) (fun _ _ _ h => h) (Or.inl ⟨by rfl, ?hy14⟩) (by assumption) ?re14
          case hy14 => (intro w hSw; (try dsimp only at hSw); go_simp; try with_reducible rfl)
          try simp only [Act.put, List.setIfInBounds_toArray, List.set_cons_zero, List.set_cons_succ]
          refine wpAnyH_take (i := 28) (oi := { dst := some 82, op := Op.fieldAddr 31 (Operand.tmp 81) 1, type := 0, pos := "laws_lists_wt04c.go:147", after := #[{ on := 27, ground := Ground.data }, { on := 25, ground := Ground.guard }], guard := some (25, true) }) (v := ?va15) rfl (by kernel_rfl) (by kernel_rfl) (by kernel_rfl) (fun _ _ _ h => h) (Or.inl ⟨by rfl, ?hy15⟩) (by assumption) ?re15
          case hy15 => (intro w hSw; (try dsimp only at hSw); go_simp; try with_reducible rfl)
          try simp only [Act.put, List.setIfInBounds_toArray, List.set_cons_zero, List.set_cons_succ]
          refine wpAnyH_take (i := 29) (oi := { dst := some 83, op := Op.load 3 (Operand.tmp 82), type := 3, pos := "laws_lists_wt04c.go:147", after := #[{ on := 28, ground := Ground.data }, { on := 25, ground := Ground.guard }], guard := some (25, true) }) (v := ?va16) rfl (by kernel_rfl) (by kernel_rfl) (by kernel_rfl) (fun _ _ _ h => h) (Or.inl ⟨by rfl, ?hy16⟩) (by assumption) ?re16
          case hy16 => (intro w hSw; (try dsimp only at hSw); go_simp; try with_reducible rfl)
          try simp only [Act.put, List.setIfInBounds_toArray, List.set_cons_zero, List.set_cons_succ]
          refine wpAnyH_take (i := 30) (oi := { dst := some 84, op := Op.binOp BinOp.neq 3 (Operand.tmp 83) (Operand.const (Value.int IntKind.i64 0)) 3, type := 4, pos := "laws_lists_wt04c.go:147", after := #[{ on := 29, ground := Ground.data }, { on := 25, ground := Ground.guard }], guard := some (25, true) }) (v := ?va17) rfl (by kernel_rfl) (by kernel_rfl) (by kernel_rfl) (fun _ _ _ h => h) (Or.inl ⟨by rfl, ?hy17⟩) (by assumption) ?re17
          case hy17 => (intro w hSw; (try dsimp only at hSw); go_simp; try with_reducible rfl)
          try simp only [Act.put, List.setIfInBounds_toArray, List.set_cons_zero, List.set_cons_succ]
          refine wpAnyH_take (i := 31) (oi := { dst := some 85, op := Op.pick (Operand.tmp 79) (Operand.tmp 84) (Operand.const (Value.bool false)), type := 4, pos := "laws_lists_wt04c.go:147", after := #[{ on := 25, ground := Ground.data }, { on := 30, ground := Ground.data }, { on := 22, ground := Ground.guard }], guard := some (22, false) }) (v := ?va18) rfl (by kernel_rfl) (by kernel_rfl) (by kernel_rfl) (fun _ _ _ h => h) (Or.inl ⟨by rfl, ?hy18⟩) (by assumption) ?re18
          case hy18 => (intro w hSw; (try dsimp only at hSw); go_simp; try with_reducible rfl)
          try simp only [Act.put, List.setIfInBounds_toArray, List.set_cons_zero, List.set_cons_succ]
          refine wpAnyH_take (i := 32) (oi := { dst := some 86, op := Op.pick (Operand.tmp 76) (Operand.const (Value.bool true)) (Operand.tmp 85), type := 4, pos := "laws_lists_wt04c.go:147", after := #[{ on := 22, ground := Ground.data }, { on := 31, ground := Ground.data }], guard := none }) (v := ?va19) rfl (by kernel_rfl) (by kernel_rfl) (by kernel_rfl) (fun _ _ _ h => h) (Or.inl ⟨by rfl, ?hy19⟩) (by assumption) ?re19
          case hy19 => (intro w hSw; (try dsimp only at hSw); go_simp; try with_reducible rfl)
          try simp only [Act.put, List.setIfInBounds_toArray, List.set_cons_zero, List.set_cons_succ]
          refine wpAnyH_done (by kernel_rfl) ?_ _
          go_wp2_with fail
          go_meet
          exact ⟨rfl, (Below.refl _ _).drew⟩
        | succ k0 =>
          have hne : its ≠ [] := fun e => by rw [e] at hk; cases hk
          obtain ⟨ad, y, hade, _, hy, _, hcy⟩ := hit9.at_ (k := mn - 1) (by have := HI0.out; omega)
          obtain ⟨ad2, z, hade2, _, hz, _, hcz⟩ := hit9.at_ (k := mn - 2) (by have := HI0.out; omega)
          subst hade
          injection hade2 with hade2
          subst hade2
          have hy2 : y.2 = lv := by
            rw [HPL.out, show mn - 1 = its.length by have := HI0.out; omega] at hy
            simp at hy
            rw [← hy]
          obtain ⟨q, hq, hql⟩ := last_get hne
          have hz2 : z.2 = lastLevel its := by
            rw [HPL.out, show mn - 2 = its.length - 1 by have := HI0.out; omega, List.getElem?_append_left (by omega), hq] at hz
            injection hz with hz
            rw [← hz, hql]
          rw [hy2] at hcy
          rw [hz2] at hcz
          have hle := HI2.out hne
          obtain ⟨ll, hll⟩ : ∃ ll, ll = lastLevel its := ⟨_, rfl⟩
          rw [← hll] at hcz hle
          have hmn3 : 2 ≤ mn := by have := HI0.out; omega
          have hlb : ll ≤ 300 := by
            have := HFA.out.drawn.2 q (by rw [HPL.out]; exact List.mem_append_left _ (List.mem_of_getElem? hq))
            omega
          have e0 : ((mn : Int) == 0) = false := by rw [beq_eq_false_iff_ne]; omega
          have e1 : ((mn : Int) == 1) = false := by rw [beq_eq_false_iff_ne]; omega
          have e2 : (1 : Int) < (mn : Int) := by omega
          have e3 : ¬ ((ll : Int) + 1 < (lv : Int)) := by omega
          have e6 : decide ((ll : Int) + 1 < (lv : Int)) = false := decide_eq_false e3
          have b1 : (0 : Int) ≤ ((mn - 1 : Nat) : Int) := by omega
          have b2 : ((mn - 1 : Nat) : Int) < (mn : Int) := by omega
          have b3 : (0 : Int) ≤ ((mn - 2 : Nat) : Int) := by omega
          have b4 : ((mn - 2 : Nat) : Int) < (mn : Int) := by omega
          have hw1 : IntKind.i64.wrap ((mn : Int) - 1) = ((mn - 1 : Nat) : Int) := by rw [IntKind.wrap_i64]; omega
          have hw2 : IntKind.i64.wrap ((mn : Int) - 2) = ((mn - 2 : Nat) : Int) := by rw [IntKind.wrap_i64]; omega
          have hw3 : IntKind.i64.wrap ((ll : Int) + 1) = (ll : Int) + 1 := by rw [IntKind.wrap_i64]; omega
          clear hy hz hy2 hz2 hk hit9 hat9 hne hq hql hll
          go_wp2_with fail
          refine wp_region_held_drew (S := (fun w' => w'.cell? ⟨(ad.add ((mn - 1) * 2)).block, (ad.add ((mn - 1) * 2)).off + 1, none⟩ = some (.int .i64 lv) ∧ w'.cell? ⟨(ad.add ((mn - 2) * 2)).block, (ad.add ((mn - 2) * 2)).off + 1, none⟩ = some (.int .i64 ll))) (by kernel_rfl) ⟨hcy, hcz⟩ (fun hHeld => ?_)
          refine wpAnyH_take (i := 0) (oi := { dst := some 54, op := Op.move (Operand.tmp 9), type := 3, pos := "laws_lists_wt04c.go:147", after := #[], guard := none }) (v := ?va20) rfl (by kernel_rfl) (by kernel_rfl) (by kernel_rfl) (fun _ _ _ h => h) (Or.inl ⟨by rfl, ?hy20⟩) (by assumption) ?re20
          case hy20 => (intro w hSw; (try dsimp only at hSw); go_simp; try with_reducible rfl)
          try simp only [Act.put, List.setIfInBounds_toArray, List.set_cons_zero, List.set_cons_succ]
          refine wpAnyH_take (i := 1) (oi := { dst := some 55, op := Op.binOp BinOp.eql 3 (Operand.tmp 54) (Operand.const (Value.int IntKind.i64 0)) 3, type := 4, pos := "laws_lists_wt04c.go:147", after := #[{ on := 0, ground := Ground.data }], guard := none }) (v := ?va21) rfl (by kernel_rfl) (by kernel_rfl) (by kernel_rfl) (fun _ _ _ h => h) (Or.inl ⟨by rfl, ?hy21⟩) (by assumption) ?re21
          case hy21 => (intro w hSw; (try dsimp only at hSw); go_simp; try with_reducible rfl)
          try simp only [Act.put, List.setIfInBounds_toArray, List.set_cons_zero, List.set_cons_succ]
          refine wpAnyH_take (i := 2) (oi := { dst := some 56, op := Op.move (Operand.tmp 55), type := 4, pos := "laws_lists_wt04c.go:147", after := #[{ on := 1, ground := Ground.data }], guard := none }) (v := ?va22) rfl (by kernel_rfl) (by kernel_rfl) (by kernel_rfl) (fun _ _ _ h => h) (Or.inl ⟨by rfl, ?hy22⟩) (by assumption) ?re22
          case hy22 => (intro w hSw; (try dsimp only at hSw); go_simp; try with_reducible rfl)
          try simp only [Act.put, List.setIfInBounds_toArray, List.set_cons_zero, List.set_cons_succ]
          refine wpAnyH_take (i := 3) (oi := { dst := some 57, op := Op.move (Operand.tmp 9), type := 3, pos := "laws_lists_wt04c.go:147", after := #[{ on := 2, ground := Ground.guard }], guard := some (2, false) }) (v := ?va23) rfl (by kernel_rfl) (by kernel_rfl) (by kernel_rfl) (fun _ _ _ h => h) (Or.inl ⟨by rfl, ?hy23⟩) (by assumption) ?re23
          case hy23 => (intro w hSw; (try dsimp only at hSw); go_simp; try with_reducible rfl)
          try simp only [Act.put, List.setIfInBounds_toArray, List.set_cons_zero, List.set_cons_succ]
          refine wpAnyH_take (i := 4) (oi := { dst := some 58, op := Op.binOp BinOp.gtr 3 (Operand.tmp 57) (Operand.const (Value.int IntKind.i64 1)) 3, type := 4, pos := "laws_lists_wt04c.go:147", after := #[{ on := 3, ground := Ground.data }, { on := 2, ground := Ground.guard }], guard := some (2, false) }) (v := ?va24) rfl (by kernel_rfl) (by kernel_rfl) (by kernel_rfl) (fun _ _ _ h => h) (Or.inl ⟨by rfl, ?hy24⟩) (by assumption) ?re24
          case hy24 => (intro w hSw; (try dsimp only at hSw); go_simp; try with_reducible rfl)
          try simp only [Act.put, List.setIfInBounds_toArray, List.set_cons_zero, List.set_cons_succ]
          refine wpAnyH_take (i := 5) (oi := { dst := some 59, op := Op.move (Operand.tmp 58), type := 4, pos := "laws_lists_wt04c.go:147", after := #[{ on := 4, ground := Ground.data }, { on := 2, ground := Ground.chain }, { on := 2, ground := Ground.guard }], guard := some (2, false) }) (v := ?va25) rfl (by kernel_rfl) (by kernel_rfl) (by kernel_rfl) (fun _ _ _ h => h) (Or.inl ⟨by rfl, ?hy25⟩) (by assumption) ?re25
          case hy25 => (intro w hSw; (try dsimp only at hSw); go_simp; try with_reducible rfl)
          try simp only [Act.put, List.setIfInBounds_toArray, List.set_cons_zero, List.set_cons_succ]
          refine wpAnyH_take (i := 6) (oi := { dst := some 60, op := Op.move (Operand.tmp 8), type := 28, pos := "laws_lists_wt04c.go:147", after := #[{ on := 5, ground := Ground.guard }], guard := some (5, true) }) (v := ?va26) rfl (by kernel_rfl) (by kernel_rfl) (by kernel_rfl) (fun _ _ _ h => h) (Or.inl ⟨by rfl, ?hy26⟩) (by assumption) ?re26
          case hy26 => (intro w hSw; (try dsimp only at hSw); go_simp; try with_reducible rfl)
          try simp only [Act.put, List.setIfInBounds_toArray, List.set_cons_zero, List.set_cons_succ]
          refine wpAnyH_take (i := 7) (oi := { dst := some 61, op := Op.move (Operand.tmp 9), type := 3, pos := "laws_lists_wt04c.go:147", after := #[{ on := 5, ground := Ground.guard }], guard := some (5, true) }) (v := ?va27) rfl (by kernel_rfl) (by kernel_rfl) (by kernel_rfl) (fun _ _ _ h => h) (Or.inl ⟨by rfl, ?hy27⟩) (by assumption) ?re27
          case hy27 => (intro w hSw; (try dsimp only at hSw); go_simp; try with_reducible rfl)
          try simp only [Act.put, List.setIfInBounds_toArray, List.set_cons_zero, List.set_cons_succ]
          refine wpAnyH_take (i := 8) (oi := { dst := some 62, op := Op.binOp BinOp.sub 3 (Operand.tmp 61) (Operand.const (Value.int IntKind.i64 1)) 3, type := 3, pos := "laws_lists_wt04c.go:147", after := #[{ on := 7, ground := Ground.data }, { on := 5, ground := Ground.guard }], guard := some (5, true) }) (v := ?va28) rfl (by kernel_rfl) (by kernel_rfl) (by kernel_rfl) (fun _ _ _ h => h) (Or.inl ⟨by rfl, ?hy28⟩) (by assumption) ?re28
          case hy28 => (intro w hSw; (try dsimp only at hSw); go_simp; try with_reducible rfl)
          try simp only [Act.put, List.setIfInBounds_toArray, List.set_cons_zero, List.set_cons_succ]
          refine wpAnyH_take (i := 9) (oi := { dst := some 63, op := Op.indexAddr 28 (Operand.tmp 60) (Operand.tmp 62), type := 0, pos := "laws_lists_wt04c.go:147", after := #[{ on := 6, ground := Ground.data }, { on := 8, ground := Ground.data }, { on := 5, ground := Ground.guard }], guard := some (5, true) }) (v := ?va29) rfl (by kernel_rfl) (by kernel_rfl) (by kernel_rfl) (fun _ _ _ h => h) (Or.inl ⟨by rfl, ?hy29⟩) (by assumption) ?re29
          case hy29 => (intro w hSw; (try dsimp only at hSw); go_simp; try with_reducible rfl)
          try simp only [Act.put, List.setIfInBounds_toArray, List.set_cons_zero, List.set_cons_succ]
          refine wpAnyH_take (i := 10) (oi := { dst := some 64, op := Op.fieldAddr 31 (Operand.tmp 63) 1, type := 0, pos := "laws_lists_wt04c.go:147", after := #[{ on := 9, ground := Ground.data }, { on := 5, ground := Ground.guard }], guard := some (5, true) }) (v := ?va30) rfl (by kernel_rfl) (by kernel_rfl) (by kernel_rfl) (fun _ _ _ h => h) (Or.inl ⟨by rfl, ?hy30⟩) (by assumption) ?re30
          case hy30 => (intro w hSw; (try dsimp only at hSw); go_simp; try with_reducible rfl)
          try simp only [Act.put, List.setIfInBounds_toArray, List.set_cons_zero, List.set_cons_succ]
          refine wpAnyH_take (i := 11) (oi := { dst := some 65, op := Op.load 3 (Operand.tmp 64), type := 3, pos := "laws_lists_wt04c.go:147", after := #[{ on := 10, ground := Ground.data }, { on := 5, ground := Ground.guard }], guard := some (5, true) }) (v := ?va31) rfl (by kernel_rfl) (by kernel_rfl) (by kernel_rfl) (fun _ _ _ h => h) (Or.inl ⟨by rfl, ?hy31⟩) (by assumption) ?re31
          case hy31 => (intro w hSw; (try dsimp only at hSw); go_simp; try with_reducible rfl)
          try simp only [Act.put, List.setIfInBounds_toArray, List.set_cons_zero, List.set_cons_succ]
          refine wpAnyH_take (i := 12) (oi := { dst := some 66, op := Op.move (Operand.tmp 8), type := 28, pos := "laws_lists_wt04c.go:147", after := #[{ on := 5, ground := Ground.guard }], guard := some (5, true) }) (v := ?va32) rfl (by kernel_rfl) (by kernel_rfl) (by kernel_rfl) (fun _ _ _ h => h) (Or.inl ⟨by rfl, ?hy32⟩) (by assumption) ?re32
          case hy32 => (intro w hSw; (try dsimp only at hSw); go_simp; try with_reducible rfl)
          try simp only [Act.put, List.setIfInBounds_toArray, List.set_cons_zero, List.set_cons_succ]
          refine wpAnyH_take (i := 13) (oi := { dst := some 67, op := Op.move (Operand.tmp 9), type := 3, pos := "laws_lists_wt04c.go:147", after := #[{ on := 5, ground := Ground.guard }], guard := some (5, true) }) (v := ?va33) rfl (by kernel_rfl) (by kernel_rfl) (by kernel_rfl) (fun _ _ _ h => h) (Or.inl ⟨by rfl, ?hy33⟩) (by assumption) ?re33
          case hy33 => (intro w hSw; (try dsimp only at hSw); go_simp; try with_reducible rfl)
          try simp only [Act.put, List.setIfInBounds_toArray, List.set_cons_zero, List.set_cons_succ]
          refine wpAnyH_take (i := 14) (oi := { dst := some 68, op := Op.binOp BinOp.sub 3 (Operand.tmp 67) (Operand.const (Value.int IntKind.i64 2)) 3, type := 3, pos := "laws_lists_wt04c.go:147", after := #[{ on := 13, ground := Ground.data }, { on := 5, ground := Ground.guard }], guard := some (5, true) }) (v := ?va34) rfl (by kernel_rfl) (by kernel_rfl) (by kernel_rfl) (fun _ _ _ h => h) (Or.inl ⟨by rfl, ?hy34⟩) (by assumption) ?re34
          case hy34 => (intro w hSw; (try dsimp only at hSw); go_simp; try with_reducible rfl)
          try simp only [Act.put, List.setIfInBounds_toArray, List.set_cons_zero, List.set_cons_succ]
          refine wpAnyH_take (i := 15) (oi := { dst := some 69, op := Op.indexAddr 28 (Operand.tmp 66) (Operand.tmp 68), type := 0, pos := "laws_lists_wt04c.go:147", after := #[{ on := 12, ground := Ground.data }, { on := 14, ground := Ground.data }, { on := 5, ground := Ground.guard }], guard := some (5, true) }) (v := ?va35) rfl (by kernel_rfl) (by kernel_rfl) (by kernel_rfl) (fun _ _ _ h => h) (Or.inl ⟨by rfl, ?hy35⟩) (by assumption) ?re35
          case hy35 => (intro w hSw; (try dsimp only at hSw); go_simp; try with_reducible rfl)
          try simp only [Act.put, List.setIfInBounds_toArray, List.set_cons_zero, List.set_cons_succ]
          refine wpAnyH_take (i := 16) (oi := { dst := some 70, op := Op.fieldAddr 31 (Operand.tmp 69) 1, type := 0, pos := "laws_lists_wt04c.go:147", after := #[{ on := 15, ground := Ground.data }, { on := 5, ground := Ground.guard }], guard := some (5, true) }) (v := ?va36) rfl (by kernel_rfl) (by kernel_rfl) (by kernel_rfl) (fun _ _ _ h => h) (Or.inl ⟨by rfl, ?hy36⟩) (by assumption) ?re36
          case hy36 => (intro w hSw; (try dsimp only at hSw); go_simp; try with_reducible rfl)
          try simp only [Act.put, List.setIfInBounds_toArray, List.set_cons_zero, List.set_cons_succ]
          refine wpAnyH_take (i := 17) (oi := { dst := some 71, op := Op.load 3 (Operand.tmp 70), type := 3, pos := "laws_lists_wt04c.go:147", after := #[{ on := 16, ground := Ground.data }, { on := 5, ground := Ground.guard }], guard := some (5, true) }) (v := ?va37) rfl (by kernel_rfl) (by kernel_rfl) (by kernel_rfl) (fun _ _ _ h => h) (Or.inl ⟨by rfl, ?hy37⟩) (by assumption) ?re37
          case hy37 => (intro w hSw; (try dsimp only at hSw); go_simp; try with_reducible rfl)
          try simp only [Act.put, List.setIfInBounds_toArray, List.set_cons_zero, List.set_cons_succ]
          refine wpAnyH_take (i := 18) (oi := { dst := some 72, op := Op.binOp BinOp.add 3 (Operand.tmp 71) (Operand.const (Value.int IntKind.i64 1)) 3, type := 3, pos := "laws_lists_wt04c.go:147", after := #[{ on := 17, ground := Ground.data }, { on := 5, ground := Ground.guard }], guard := some (5, true) }) (v := ?va38) rfl (by kernel_rfl) (by kernel_rfl) (by kernel_rfl) (fun _ _ _ h => h) (Or.inl ⟨by rfl, ?hy38⟩) (by assumption) ?re38
          case hy38 => (intro w hSw; (try dsimp only at hSw); go_simp; try with_reducible rfl)
          try simp only [Act.put, List.setIfInBounds_toArray, List.set_cons_zero, List.set_cons_succ]
          refine wpAnyH_take (i := 19) (oi := { dst := some 73, op := Op.binOp BinOp.gtr 3 (Operand.tmp 65) (Operand.tmp 72) 3, type := 4, pos := "laws_lists_wt04c.go:147", after := #[{ on := 11, ground := Ground.data }, { on := 18, ground := Ground.data }, { on := 5, ground := Ground.guard }], guard := some (5, true) }) (v := ?va39) rfl (by kernel_rfl) (by kernel_rfl) (by kernel_rfl) (fun _ _ _ h => h) (Or.inl ⟨by rfl, ?hy39⟩) (by assumption) ?re39
          case hy39 => (intro w hSw; (try dsimp only at hSw); go_simp; try with_reducible rfl)
          try simp only [Act.put, List.setIfInBounds_toArray, List.set_cons_zero, List.set_cons_succ]
          refine wpAnyH_take (i := 20) (oi := { dst := some 74, op := Op.pick (Operand.tmp 59) (Operand.tmp 73) (Operand.const (Value.bool false)), type := 4, pos := "laws_lists_wt04c.go:147", after := #[{ on := 5, ground := Ground.data }, { on := 19, ground := Ground.data }, { on := 2, ground := Ground.guard }], guard := some (2, false) }) (v := ?va40) rfl (by kernel_rfl) (by kernel_rfl) (by kernel_rfl) (fun _ _ _ h => h) (Or.inl ⟨by rfl, ?hy40⟩) (by assumption) ?re40
          case hy40 => (intro w hSw; (try dsimp only at hSw); go_simp; try with_reducible rfl)
          try simp only [Act.put, List.setIfInBounds_toArray, List.set_cons_zero, List.set_cons_succ]
          refine wpAnyH_take (i := 21) (oi := { dst := some 75, op := Op.pick (Operand.tmp 56) (Operand.const (Value.bool true)) (Operand.tmp 74), type := 4, pos := "laws_lists_wt04c.go:147", after := #[{ on := 2, ground := Ground.data }, { on := 20, ground := Ground.data }], guard := none }) (v := ?va41) rfl (by kernel_rfl) (by kernel_rfl) (by kernel_rfl) (fun _ _ _ h => h) (Or.inl ⟨by rfl, ?hy41⟩) (by assumption) ?re41
          case hy41 => (intro w hSw; (try dsimp only at hSw); go_simp; try with_reducible rfl)
          try simp only [Act.put, List.setIfInBounds_toArray, List.set_cons_zero, List.set_cons_succ]
          refine wpAnyH_take (i := 22) (oi := { dst := some 76, op := Op.move (Operand.tmp 75), type := 4, pos := "laws_lists_wt04c.go:147", after := #[{ on := 21, ground := Ground.data }, { on := 5, ground := Ground.chain }], guard := none }) (v := ?va42) rfl (by kernel_rfl) (by kernel_rfl) (by kernel_rfl) (fun _ _ _ h => h) (Or.inl ⟨by rfl, ?hy42⟩) (by assumption) ?re42
          case hy42 => (intro w hSw; (try dsimp only at hSw); go_simp; try with_reducible rfl)
          try simp only [Act.put, List.setIfInBounds_toArray, List.set_cons_zero, List.set_cons_succ]
          refine wpAnyH_take (i := 23) (oi := { dst := some 77, op := Op.move (Operand.tmp 9), type := 3, pos := "laws_lists_wt04c.go:147", after := #[{ on := 22, ground := Ground.guard }], guard := some (22, false) }) (v := ?va43) rfl (by kernel_rfl) (by kernel_rfl) (by kernel_rfl) (fun _ _ _ h => h) (Or.inl ⟨by rfl, ?hy43⟩) (by assumption) ?re43
          case hy43 => (intro w hSw; (try dsimp only at hSw); go_simp; try with_reducible rfl)
          try simp only [Act.put, List.setIfInBounds_toArray, List.set_cons_zero, List.set_cons_succ]
          refine wpAnyH_take (i := 24) (oi := { dst := some 78, op := Op.binOp BinOp.eql 3 (Operand.tmp 77) (Operand.const (Value.int IntKind.i64 1)) 3, type := 4, pos := "laws_lists_wt04c.go:147", after := #[{ on := 23, ground := Ground.data }, { on := 22, ground := Ground.guard }], guard := some (22, false) }) (v := ?va44) rfl (by kernel_rfl) (by kernel_rfl) (by kernel_rfl) (fun _ _ _ h => h) (Or.inl ⟨by rfl, ?hy44⟩) (by assumption) ?re44
          case hy44 => (intro w hSw; (try dsimp only at hSw); go_simp; try with_reducible rfl)
          try simp only [Act.put, List.setIfInBounds_toArray, List.set_cons_zero, List.set_cons_succ]
          refine wpAnyH_take (i := 25) (oi := { dst := some 79, op := Op.move (Operand.tmp 78), type := 4, pos := "laws_lists_wt04c.go:147", after := #[{ on := 24, ground := Ground.data }, { on := 22, ground := Ground.chain }, { on := 22, ground := Ground.guard }], guard := some (22, false) }) (v := ?va45) rfl (by kernel_rfl) (by kernel_rfl) (by kernel_rfl) (fun _ _ _ h => h) (Or.inl ⟨by rfl, ?hy45⟩) (by assumption) ?re45
          case hy45 => (intro w hSw; (try dsimp only at hSw); go_simp; try with_reducible rfl)
          try simp only [Act.put, List.setIfInBounds_toArray, List.set_cons_zero, List.set_cons_succ]
          refine wpAnyH_take (i := 26) (oi := { dst := some 80, op := Op.move (Operand.tmp 8), type := 28, pos := "laws_lists_wt04c.go:147", after := #[{ on := 25, ground := Ground.guard }], guard := some (25, true) }) (v := undef) rfl (by kernel_rfl) (by kernel_rfl) (by kernel_rfl) (fun _ _ _ h => h) (Or.inr ⟨by rfl, rfl⟩) (by assumption) ?_
          try simp only [Act.put, List.setIfInBounds_toArray, List.set_cons_zero, List.set_cons_succ]
          refine wpAnyH_take (i := 27) (oi := { dst := some 81, op := Op.indexAddr 28 (Operand.tmp 80) (Operand.const (Value.int IntKind.i64 0)), type := 0, pos := "laws_lists_wt04c.go:147", after := #[{ on := 26, ground := Ground.data }, { on := 25, ground := Ground.guard }], guard := some (25, true) }) (v := undef) rfl (by kernel_rfl) (by kernel_rfl) (by kernel_rfl) (fun _ _ _ h => h) (Or.inr ⟨by rfl, rfl⟩) (by assumption) ?_
          try simp only [Act.put, List.setIfInBounds_toArray, List.set_cons_zero, List.set_cons_succ]
          refine wpAnyH_take (i := 28) (oi := { dst := some 82, op := Op.fieldAddr 31 (Operand.tmp 81) 1, type := 0, pos := "laws_lists_wt04c.go:147", after := #[{ on := 27, ground := Ground.data }, { on := 25, ground := Ground.guard }], guard := some (25, true) }) (v := undef) rfl (by kernel_rfl) (by kernel_rfl) (by kernel_rfl) (fun _ _ _ h => h) (Or.inr ⟨by rfl, rfl⟩) (by assumption) ?_
          try simp only [Act.put, List.setIfInBounds_toArray, List.set_cons_zero, List.set_cons_succ]
          refine wpAnyH_take (i := 29) (oi := { dst := some 83, op := Op.load 3 (Operand.tmp 82), type := 3, pos := "laws_lists_wt04c.go:147", after := #[{ on := 28, ground := Ground.data }, { on := 25, ground := Ground.guard }], guard := some (25, true) }) (v := undef) rfl (by kernel_rfl) (by kernel_rfl) (by kernel_rfl) (fun _ _ _ h => h) (Or.inr ⟨by rfl, rfl⟩) (by assumption) ?_
          try simp only [Act.put, List.setIfInBounds_toArray, List.set_cons_zero, List.set_cons_succ]
          refine wpAnyH_take (i := 30) (oi := { dst := some 84, op := Op.binOp BinOp.neq 3 (Operand.tmp 83) (Operand.const (Value.int IntKind.i64 0)) 3, type := 4, pos := "laws_lists_wt04c.go:147", after := #[{ on := 29, ground := Ground.data }, { on := 25, ground := Ground.guard }], guard := some (25, true) }) (v := undef) rfl (by kernel_rfl) (by kernel_rfl) (by kernel_rfl) (fun _ _ _ h => h) (Or.inr ⟨by rfl, rfl⟩) (by assumption) ?_
          try simp only [Act.put, List.setIfInBounds_toArray, List.set_cons_zero, List.set_cons_succ]
          refine wpAnyH_take (i := 31) (oi := { dst := some 85, op := Op.pick (Operand.tmp 79) (Operand.tmp 84) (Operand.const (Value.bool false)), type := 4, pos := "laws_lists_wt04c.go:147", after := #[{ on := 25, ground := Ground.data }, { on := 30, ground := Ground.data }, { on := 22, ground := Ground.guard }], guard := some (22, false) }) (v := ?va46) rfl (by kernel_rfl) (by kernel_rfl) (by kernel_rfl) (fun _ _ _ h => h) (Or.inl ⟨by rfl, ?hy46⟩) (by assumption) ?re46
          case hy46 => (intro w hSw; (try dsimp only at hSw); go_simp; try with_reducible rfl)
          try simp only [Act.put, List.setIfInBounds_toArray, List.set_cons_zero, List.set_cons_succ]
          refine wpAnyH_take (i := 32) (oi := { dst := some 86, op := Op.pick (Operand.tmp 76) (Operand.const (Value.bool true)) (Operand.tmp 85), type := 4, pos := "laws_lists_wt04c.go:147", after := #[{ on := 22, ground := Ground.data }, { on := 31, ground := Ground.data }], guard := none }) (v := ?va47) rfl (by kernel_rfl) (by kernel_rfl) (by kernel_rfl) (fun _ _ _ h => h) (Or.inl ⟨by rfl, ?hy47⟩) (by assumption) ?re47
          case hy47 => (intro w hSw; (try dsimp only at hSw); go_simp; try with_reducible rfl)
          try simp only [Act.put, List.setIfInBounds_toArray, List.set_cons_zero, List.set_cons_succ]
          refine wpAnyH_done (by kernel_rfl) ?_ _
          go_wp2_with fail
          go_meet
          exact ⟨rfl, (Below.refl _ _).drew⟩
      case rest =>
        obtain ⟨rfl, hbr⟩ := hcut
        obtain ⟨wq, rfl⟩ : ∃ q : World, q = wc := ⟨_, rfl⟩
        have hatq := (hat9.below hbr).more hbr.size
        have hitq := (hit9.below hbr).more hbr.size
        have hbwq := hbw9.trans (hbr.mono hbw9.size)
        clear hat9 hit9 hbr hbw9
        go_wp2_with fail
        refine (listPlain_any A8 _ c8 al _ hatq HFA.out.cost (by have := HFA.out.len; omega) HFA.out.plain HFA.out.drawn).mono ?_
        rintro e w11 ⟨rfl, hb11⟩
        rw [HO.out]
        have hit11 := (hitq.below hb11).more hb11.size
        have hbw11 := hbwq.trans (hb11.mono hbwq.size)
        clear hatq hitq hbwq hb11
        go_wp2_with fail
        refine (star_any ⟨#[]⟩ ⟨#[10]⟩ _).mono ?_
        rintro e w12 ⟨rfl, hb12⟩
        have hit12 := (hit11.below hb12).more hb12.size
        have hbw12 := hbw11.trans (hb12.mono hbw11.size)
        clear hit11 hbw11 hb12
        have hdn := ltDrawn_any A9 mn c9 (played al) (starSt ⟨#[]⟩ ⟨#[10]⟩) w12 hit12 HFA.out.drawn (star_small _ (Nat.le_of_ble_eq_true rfl))
        rw [HO2.out] at hdn
        have HDN := Lib.hid hdn
        clear hdn
        unfold starSt StyleV.arg at HDN ⊢
        dsimp only at HDN ⊢
        go_wp2_with fail
        refine HDN.out.mono ?_
        rintro e w13 ⟨rfl, hb13⟩
        have hbw13 := hbw12.trans (hb13.mono hbw12.size)
        clear HDN
        go_wp2
        go_ret
        exact ⟨rfl, hbw13⟩
end Go.Proofs.YtccbjmmggolhnaaDoor
