/- Walks of the parser's splitAndTrimCodes and ParseSeq. Conditions: the library's tables as they are laid; sizes below the bounds that are named. -/
import Derived.Test.YtlclmpiocbkabaaGreatDoorParser2
import Derived.Test.YtlclmpiocbkabaaGreatDoorShelf
import Derived.Lib.TrimAscii
namespace Go.Proofs.YtlclmpiocbkabaaGreatDoor
open Go.RowKit
set_option linter.unusedVariables false

/-- The library's tables that TrimSpace reads. -/
def Tabs (w : World) : Prop := Lib.TabIs Tryz.prog w "strings.asciiSpace" .u8 Lib.asciiSpaceTab ∧ Lib.Utf8Tabs 5 6 w ∧ Lib.WhiteTab 2 w
/-- .. and stay, whatever is laid from block B on. -/
def TabsB (B : Nat) (w : World) : Prop := ∀ w', Below B w w' → Tabs w'
theorem TabIs_stays {n : String} {g : Nat} {k : IntKind} {zs : List Int} {w w' : World} (hg : Tryz.prog.globalNamed n = some g) (h : Lib.TabIs Tryz.prog w n k zs) (hb : Below w.heap.size w w') : Lib.TabIs Tryz.prog w' n k zs := by
  unfold Lib.TabIs at h ⊢
  unfold World.var? at h ⊢
  rw [hg] at h ⊢
  dsimp only [Option.bind_eq_bind, Option.bind] at h ⊢
  have hlt : g < w.heap.size := by
    rcases Nat.lt_or_ge g w.heap.size with h' | h'
    · exact h'
    · rw [Array.getElem?_eq_none h'] at h; cases h
  rw [hb.block g hlt]
  exact h
theorem Tabs.stay {w : World} (h : Tabs w) : TabsB w.heap.size w := by
  intro w' hb
  obtain ⟨h1, h2, h3⟩ := h
  exact ⟨TabIs_stays (g := 1) (by kernel_rfl) h1 hb, Utf8Tabs_below h2 hb, WhiteTab_below h3 hb⟩
theorem TabsB.then {B : Nat} {w w1 : World} (h : TabsB B w) (hb : Below B w w1) : TabsB B w1 := fun w' h2 => h w' (hb.trans h2)
theorem TabsB.now {B : Nat} {w : World} (h : TabsB B w) : Tabs w := h w (Below.refl _ _)

/-! ### splitting -/
theorem row_set {w : World} {base e n k g cap : Nat} {xs : List Value} (h : w.ownsRow base e 1 (.slice (some ⟨g, 0, none⟩) n cap) n xs) (u : Value) : (w.setCell ⟨g, k, none⟩ u).ownsRow base e 1 (.slice (some ⟨g, 0, none⟩) n cap) n (xs.set k u) := by
  obtain ⟨h1, h2⟩ := h
  refine ⟨by rw [List.length_set]; exact h1, ?_⟩
  rcases h2 with ⟨h2, _⟩ | ⟨g', cap', cur, hv, hg, hh, hn, hm, hs, ht⟩
  · cases h2
  · injection hv with e1 e2 e3
    injection e1 with e1
    injection e1 with e1
    subst e1 e3
    refine Or.inr ⟨g, cap, cur.setIfInBounds k u, rfl, hg, heap_setCell_same w g k _ _ u hh, hn, hm, by rw [Array.size_setIfInBounds]; exact hs, ?_⟩
    rw [Array.toList_setIfInBounds, List.take_set, ht]
theorem row_frozen {w : World} {base e n k g cap : Nat} {xs : List Value} (h : w.ownsRow base e 1 (.slice (some ⟨g, 0, none⟩) n cap) n xs) : w.frozen? ⟨g, k, none⟩ = false := by
  rcases h.2 with ⟨h2, _⟩ | ⟨g', cap', cur, hv, hg, hh, _⟩
  · cases h2
  · injection hv with e1 e2 e3
    injection e1 with e1
    injection e1 with e1
    subst e1
    exact frozen_of_row w g k _ _ hh
theorem row_base {w : World} {base e n g cap : Nat} {xs : List Value} (h : w.ownsRow base e 1 (.slice (some ⟨g, 0, none⟩) n cap) n xs) : base ≤ g := (World.ownsRow.lt h g rfl).1

theorem trimL_le : ∀ (f : Nat) (l : List UInt8), (Lib.trimLeftD f l).length ≤ l.length
  | 0, l => Nat.le_refl _
  | f + 1, l => by
    rw [Lib.trimLeftD]
    split
    · simp
    · split
      · have := trimL_le f (l.drop (Lib.decodeL l).2)
        rw [List.length_drop] at this
        omega
      · exact Nat.le_refl _
theorem trimR_le : ∀ (f : Nat) (l : List UInt8), (Lib.trimRightD f l).length ≤ l.length
  | 0, l => Nat.le_refl _
  | f + 1, l => by
    rw [Lib.trimRightD]
    split
    · simp
    · split
      · have := trimR_le f (l.take (l.length - (Lib.decodeLastL l).2))
        rw [List.length_take] at this
        omega
      · exact Nat.le_refl _
theorem trim_le (l : List UInt8) : (Lib.trimSpaceD l).length ≤ l.length := Nat.le_trans (trimR_le _ _) (trimL_le _ _)
def trimB (s : ByteArray) : ByteArray := ⟨(Lib.trimSpaceD (bl s)).toArray⟩
theorem split_ne (sep : List UInt8) : ∀ l : List UInt8, splitL sep l ≠ []
  | [] => by rw [splitL_nil]; simp
  | x :: t => by
    cases h : sep.isPrefixOf (x :: t) with
    | true => rw [splitL_hit h]; simp
    | false =>
      rw [splitL_miss h]
      cases splitL sep t <;> simp
theorem split_count (x : UInt8) : ∀ l : List UInt8, (splitL [x] l).length ≤ l.length + 1 ∧ ∀ y ∈ splitL [x] l, y.length ≤ l.length
  | [] => by rw [splitL_nil]; simp
  | b :: t => by
    have ih := split_count x t
    cases h : ([x] : List UInt8).isPrefixOf (b :: t) with
    | true =>
      rw [splitL_hit h]
      simp only [List.length_cons, List.length_nil, Nat.zero_add, Nat.sub_self, List.drop_zero, List.mem_cons]
      refine ⟨by omega, fun y hy => ?_⟩
      rcases hy with rfl | hy
      · simp
      · have := ih.2 y hy; omega
    | false =>
      rw [splitL_miss h]
      cases hs : splitL [x] t with
      | nil => simp
      | cons a r =>
        rw [hs] at ih
        simp only [List.length_cons, List.mem_cons] at ih ⊢
        refine ⟨by omega, fun y hy => ?_⟩
        rcases hy with rfl | hy
        · have := ih.2 a (Or.inl rfl); simp; omega
        · have := ih.2 y (Or.inr hy); omega

set_option maxRecDepth 100000 in
set_option maxHeartbeats 4000000 in
theorem splitTrim_any (p : Value) (s : ByteArray) (w : World) (hs : s.size ≤ 100000) (hT : TabsB w.heap.size w) :
    Calls Tryz.prog 49 #[p, .string s] w fun e w' => ∃ v l, e = .returned v ∧ OwnStrs w' w.heap.size v l ∧ l.map bl = codesOf s ∧ (∀ x ∈ l, x.size ≤ 200000) ∧ Below w.heap.size w w' := by
  have hcnt := split_count 59 (bl s)
  go_enter Tryz.func49, Tryz.ntmps49
  go_wp2_with fail
  refine (split_any s ⟨#[59]⟩ _ (by omega) (by decide) (by decide)).mono ?_
  rintro e w1 ⟨v, T, rfl, hown, hTm, hb1⟩
  rw [show bl (⟨#[59]⟩ : ByteArray) = [59] from rfl] at hTm
  obtain ⟨N, hN⟩ : ∃ N, N = T.length := ⟨_, rfl⟩
  have hTl : T.length = (splitL [59] (bl s)).length := by rw [← hTm, List.length_map]
  have hNpos : 0 < N := by
    rw [hN, hTl]
    cases h : splitL [59] (bl s) with
    | nil => exact absurd h (split_ne _ _)
    | cons a r => simp
  have hNs : N ≤ 100001 := by rw [hN, hTl]; have := hcnt.1; rw [bl_size] at this; omega
  have hTz : ∀ x ∈ T, x.size ≤ 100000 := fun x hx => by
    have := hcnt.2 (bl x) (by rw [← hTm]; exact List.mem_map.2 ⟨x, hx, rfl⟩)
    rw [bl_size, bl_size] at this
    omega
  unfold OwnStrs at hown
  rw [← hN] at hown
  obtain ⟨g, cap, rfl⟩ : ∃ g cap, v = .slice (some ⟨g, 0, none⟩) N cap := by
    rcases hown.2 with ⟨_, h00⟩ | ⟨g, cap, cur, hv, _⟩
    · omega
    · exact ⟨g, cap, hv⟩
  have hgB := row_base hown
  have HN := Lib.hid hN
  have HT := Lib.hid hTm
  have HZ := Lib.hid hTz
  clear hN hTm hTz hcnt hTl
  go_wp2_with fail
  go_loopw [11] (fun v11 wr => ∃ k : Nat, k ≤ N ∧ v11 = .int .i64 k ∧ wr.ownsRow w.heap.size 9 1 (.slice (some ⟨g, 0, none⟩) N cap) N (((T.take k).map trimB ++ T.drop k).map Value.string) ∧ Below w.heap.size w wr) (fun v11 _ => N - (intOf v11).toNat)
  case atStart => exact ⟨0, Nat.zero_le _, rfl, by simpa using hown, hb1⟩
  case round =>
    obtain ⟨k, hk, rfl, hown, hbr⟩ := hrel
    clear hb1
    by_cases hlt : k < N
    · obtain ⟨y, hy⟩ : ∃ y, T[k]? = some y := ⟨_, List.getElem?_eq_getElem (by rw [← HN.out]; exact hlt)⟩
      have hyz := HZ.out y (List.mem_of_getElem? hy)
      have hki : (k : Int) < (N : Int) := by omega
      have hcell : wr.cell? ⟨g, k, none⟩ = some (.string y) := by
        rw [hown.cellAt k (by omega), List.getElem?_map]
        have hl : ((T.take k).map trimB).length = k := by rw [List.length_map, List.length_take, ← HN.out]; omega
        rw [List.getElem?_append_right (by rw [hl]; exact Nat.le_refl _), hl, Nat.sub_self, List.getElem?_drop, Nat.add_zero, hy]
        rfl
      obtain ⟨t1, t2, t3⟩ := (hT.then hbr).now
      go_wp2_with fail
      refine (Tryz.strings_TrimSpace_any y _ (by omega) t1 t2 t3).mono ?_
      rintro e w2 ⟨rfl, hb2⟩
      have hown2 := own_below hown hb2 (Nat.le_refl _)
      have hcell2 : w2.cell? ⟨g, k, none⟩ = some (.string y) := (hb2.cell (p := ⟨g, k, none⟩) (World.ownsRow.lt hown g rfl).2).trans hcell
      have hfr := row_frozen (k := k) hown2
      have hset := row_set (k := k) hown2 (.string (trimB y))
      have hstep : (((T.take k).map trimB ++ T.drop k).map Value.string).set k (.string (trimB y)) = (((T.take (k + 1)).map trimB ++ T.drop (k + 1)).map Value.string) := by
        have hl : ((T.take k).map trimB).length = k := by rw [List.length_map, List.length_take, ← HN.out]; omega
        rw [← List.map_set, List.set_append_right _ _ (by rw [hl]; exact Nat.le_refl _), hl, Nat.sub_self, drop_step hy, List.set_cons_zero, take_step hy]
        simp
      rw [hstep] at hset
      have hb12 := hbr.trans (hb2.mono hbr.size)
      have hb13 := hb12.setCell (p := ⟨g, k, none⟩) hgB (.string (trimB y))
      clear hown hown2 hb2 hbr t1 t2 t3 hstep hy hyz
      go_wp2
      exact ⟨⟨k + 1, by omega, by go_num, hset, hb13⟩, by simp [intOf]; omega⟩
    · have hki : ¬ (k : Int) < (N : Int) := by omega
      have hkN : k = N := by omega
      subst hkN
      have hown2 : OwnStrs wr w.heap.size (.slice (some ⟨g, 0, none⟩) k cap) (T.map trimB) := by
        unfold OwnStrs
        rw [List.take_of_length_le (by rw [← HN.out]; exact Nat.le_refl _), List.drop_of_length_le (by rw [← HN.out]; exact Nat.le_refl _), List.append_nil] at hown
        rw [List.length_map, ← HN.out]
        exact hown
      have he : (T.map trimB).map bl = codesOf s := by
        unfold codesOf
        rw [← HT.out, List.map_map, List.map_map]
        rfl
      have hz : ∀ x ∈ T.map trimB, x.size ≤ 200000 := fun x hx => by
        obtain ⟨y, hy, rfl⟩ := List.mem_map.1 hx
        have := HZ.out y hy
        have h2 := trim_le (bl y)
        rw [bl_size] at h2
        have h3 : (trimB y).size = (Lib.trimSpaceD (bl y)).length := (bl_size (trimB y)).symm
        omega
      go_wp2
      go_ret
      exact ⟨_, rfl, _, hown2, he, hz, hbr⟩

/-! ### ParseSeq -/
/-- Blocks that reading codes never writes, stay: all but the parser's own and the maps. -/
def KeptM (p : Nat) (w w' : World) : Prop := ∀ k o, w.heap[k]? = some o → k ≠ p → (∀ es cl, o ≠ .map es cl) → w'.heap[k]? = some o
theorem KeptM.refl (p : Nat) (w : World) : KeptM p w w := fun _ _ h _ _ => h
theorem KeptM.trans {p : Nat} {w w1 w2 : World} (h : KeptM p w w1) (g : KeptM p w1 w2) : KeptM p w w2 := fun k o h1 h2 h3 => g k o (h k o h1 h2 h3) h2 h3
theorem KeptM.below {p : Nat} {w w' : World} (h : Below w.heap.size w w') : KeptM p w w' := fun k o h1 _ _ => (h.block k (Array.getElem?_eq_some_iff.1 h1).1).trans h1
theorem Only.kept {w w' : World} {p b : Nat} {l : List Int} (h : Only w w' p b) (hs : SetAt w b l) : KeptM p w w' := fun k o h1 h2 h4 => by
  refine (h.block k (Array.getElem?_eq_some_iff.1 h1).1 h2 ?_).trans h1
  rintro rfl
  obtain ⟨es, clock, hb, _⟩ := hs
  rw [hb] at h1
  injection h1 with h1
  exact h4 _ _ h1.symm
/-- Blocks that the parser never writes, stay: no row of bytes either. -/
def Kept (p : Nat) (w w' : World) : Prop := ∀ k o, w.heap[k]? = some o → k ≠ p → (∀ c fz, o ≠ .cells c 5 fz) → (∀ es cl, o ≠ .map es cl) → w'.heap[k]? = some o
theorem Kept.refl (p : Nat) (w : World) : Kept p w w := fun _ _ h _ _ _ => h
theorem Kept.trans {p : Nat} {w w1 w2 : World} (h : Kept p w w1) (g : Kept p w1 w2) : Kept p w w2 := fun k o h1 h2 h3 h4 => g k o (h k o h1 h2 h3 h4) h2 h3 h4
theorem Kept.below {p : Nat} {w w' : World} (h : Below w.heap.size w w') : Kept p w w' := fun k o h1 _ _ _ => (h.block k (Array.getElem?_eq_some_iff.1 h1).1).trans h1
theorem KeptM.kept {p : Nat} {w w' : World} (h : KeptM p w w') : Kept p w w' := fun k o h1 h2 _ h4 => h k o h1 h2 h4
theorem Only.toBelow {w w' : World} {p b B : Nat} (h : Only w w' p b) (hp : B ≤ p) (hb : B ≤ b) (hB : B ≤ w.heap.size) : Below B w w' :=
  ⟨h.os, h.tape, h.output, h.size, fun k hk => h.block k (by omega) (by omega) (by omega)⟩
/-- The codes behind a value of the map's type. -/
def CodesV (w : World) (B : Nat) (v : Value) (l : List Int) : Prop := (v = .map none ∧ l = []) ∨ ∃ b, v = .map (some b) ∧ B ≤ b ∧ SetAt w b l

theorem parse_eq (l : List Int) (s : ByteArray) (kind : Int) {ss : List ByteArray} (h : ss.map bl = codesOf (stripE kind s)) : parseSeq l s kind = procReg (proc256 (ss.map bl) ss.length 0 (l, [])).2 0 (ss.map bl) (proc256 (ss.map bl) ss.length 0 (l, [])).1 := by
  unfold parseSeq
  dsimp only
  rw [← h, List.length_map]
theorem strip_size (kind : Int) (s : ByteArray) : (stripE kind s).size ≤ s.size := by
  unfold stripE
  split
  · exact Nat.le_trans (cut_size _ _ (by decide)) (cut_size _ _ (by decide))
  · exact Nat.le_trans (cut_size _ _ (by decide)) (cut_size _ _ (by decide))
/-- What ParseSeq leaves. -/
def ParseDone (w w' : World) (B p : Nat) (i : Bool) (k : Int) (vb : Value) (l : List Int) : Prop := (∃ b', MAt w' p b' i k vb l ∧ B ≤ b') ∧ Below B w w' ∧ KeptM p w w'
theorem kept_new {p : Nat} {w : World} {vm : Value} {i : Bool} {k : Int} {vb : Value} (h : w.heap[p]? = some (.cells (pcells vm i k vb) 52 (0, 0))) : KeptM p w ((w.setCell ⟨p, 0, none⟩ (.map (some w.heap.size))).alloc (.map #[] 0)) := fun j o h1 h2 _ =>
  ((fresh_map h).2.1 j (Array.getElem?_eq_some_iff.1 h1).1 h2).trans h1
set_option maxRecDepth 100000 in
set_option maxHeartbeats 400000 in
theorem parseSeq_made (B p b : Nat) (i : Bool) (k : Int) (vb : Value) (l : List Int) (s : ByteArray) (kind : Int) (w : World) (h : MAt w p b i k vb l) (hBp : B ≤ p) (hBbn : B ≤ b) (hBw : B ≤ w.heap.size) (hT : TabsB B w) (hs : s.size ≤ 100000) (hl : l.length ≤ 100000) :
    Calls Tryz.prog 38 #[.pointer (some ⟨p, 0, none⟩), .string s, .int .i64 kind] w fun e w' => e = .returned (.tuple #[]) ∧ ParseDone w w' B p i k vb (parseSeq l s kind) := by
  have hnn := @run_eql_map_nil Tryz.prog
  have hc0 := h.cell
  have hzs := strip_size kind s
  have hm0 := h
  have hB0 := Below.refl B w
  have hK0 := KeptM.refl p w
  have hB0s := hBw
  have hu := mapUnder
  have hnn2 : ∀ w : World, (binOp .eql 48 (.map (some b)) (.map none)).run Tryz.prog w = .ok (.bool false) w := fun w => run_eql_map_nil w _ _ _ _ mapUnder
  clear hnn h hu
  go_enter Tryz.func38, Tryz.ntmps38
  go_wp2_with fail
  refine (stripE_any _ s kind _ (by omega)).mono ?_
  rintro e wa ⟨rfl, hba⟩
  have hma := hm0.below hba
  have hBa := hB0.trans (hba.mono hB0s)
  have hKa := hK0.trans (KeptM.below hba)
  have hBas := Nat.le_trans hB0s hba.size
  clear hm0 hba hK0
  go_wp2_with fail
  refine (splitTrim_any _ (stripE kind s) wa (by omega) (fun w' h => (hT.then hBa) w' (h.mono hBas))).mono ?_
  rintro e wb ⟨v, T, rfl, hown, hTc, hTz, hbb⟩
  obtain ⟨A, c, rfl, hst⟩ := OwnStrs.rd hown
  have hmb := hma.below hbb
  have hBb := hBa.trans (hbb.mono hBas)
  have hKb := hKa.trans (KeptM.below hbb)
  have hBbs := Nat.le_trans hBas hbb.size
  have hoff : Off A p b := fun ad e => by
    subst e
    have h1 := (World.ownsRow.lt hown ad.block rfl).1
    have h2 := hma.lt
    constructor <;> omega
  have hTn : T.length ≤ 100001 := by
    have h1 := split_count 59 (bl (stripE kind s))
    have h2 : T.length = (codesOf (stripE kind s)).length := by rw [← hTc, List.length_map]
    unfold codesOf at h2
    rw [List.length_map] at h2
    have h3 := h1.1
    rw [bl_size] at h3
    omega
  have HP := Lib.hid (parse_eq l s kind hTc)
  obtain ⟨N, hN⟩ : ∃ N, N = T.length := ⟨_, rfl⟩
  rw [← hN] at hst hTn HP ⊢
  clear hma hbb hown hKa hN hTc
  go_wp2_with fail
  refine (proc256_any p b i k vb l A N c T wb hmb hst hoff (fun x hx => by have := hTz x hx; omega) (by omega) (by omega)).mono ?_
  rintro e wc ⟨bi, rfl, hbi, hmc, hsc, hoc⟩
  have hlc := len_proc256 (T.map bl) N 0 (l, [])
  have hstc := hst.only hoc hoff
  have hKc := hKb.trans (hoc.kept hmb.set)
  have hBc := hBb.trans (hoc.toBelow hBp hBbn hBbs)
  have hlt := hmb.lt
  have hBcs := Nat.le_trans hBbs hoc.size
  clear hmb hst hoc hKb
  go_wp2_with fail
  refine (procReg_any p b bi i k vb _ _ A N c T wc hmc hsc (by omega) hstc hoff (fun x hx => by have := hTz x hx; omega) (by omega) (by have h9 : (proc256 (T.map bl) N 0 (l, [])).1.length ≤ l.length + N := hlc.1; omega)).mono ?_
  rintro e wd ⟨rfl, b2, hmd, hb2, hod⟩
  rw [← HP.out] at hmd
  have hKd := hKc.trans (hod.kept hmc.set)
  have hBd := hBc.trans (hod.toBelow hBp hBbn hBcs)
  have hb3 : B ≤ b2 := by rcases hb2 with e | e <;> omega
  go_wp2
  go_end0
  exact ⟨rfl, ⟨b2, hmd, hb3⟩, hBd, hKd⟩

set_option maxRecDepth 100000 in
set_option maxHeartbeats 400000 in
theorem parseSeq_nil (B p : Nat) (i : Bool) (k : Int) (vb : Value) (s : ByteArray) (kind : Int) (w : World) (h : w.heap[p]? = some (.cells (pcells (.map none) i k vb) 52 (0, 0))) (hBp : B ≤ p) (hBw : B ≤ w.heap.size) (hT : TabsB B w) (hs : s.size ≤ 100000) :
    Calls Tryz.prog 38 #[.pointer (some ⟨p, 0, none⟩), .string s, .int .i64 kind] w fun e w' => e = .returned (.tuple #[]) ∧ ParseDone w w' B p i k vb (parseSeq [] s kind) := by
  have hc0 : w.cell? ⟨p, 0, none⟩ = some (.map none) := cell_of_row w p 0 _ _ _ h
  have hf0 := frozen_of_row w p 0 _ _ h
  have hzs := strip_size kind s
  obtain ⟨hm0, f2, f3⟩ := fresh_map h
  have hK0 := kept_new h
  obtain ⟨b, hbb, hm1⟩ : ∃ b, b = w.heap.size ∧ MAt ((w.setCell ⟨p, 0, none⟩ (.map (some w.heap.size))).alloc (.map #[] 0)) p b i k vb [] := ⟨_, rfl, hm0⟩
  clear hm0
  have hm0 := hm1
  clear hm1
  have hBbn : B ≤ b := by omega
  have hB0 : Below B w ((w.setCell ⟨p, 0, none⟩ (.map (some w.heap.size))).alloc (.map #[] 0)) := ⟨rfl, rfl, rfl, by rw [f3]; omega, fun j hj => f2 j (by omega) (by omega)⟩
  have hB0s : B ≤ ((w.setCell ⟨p, 0, none⟩ (.map (some w.heap.size))).alloc (.map #[] 0)).heap.size := by rw [f3]; omega
  have hl : ([] : List Int).length ≤ 100000 := Nat.zero_le _
  obtain ⟨l, hll⟩ : ∃ l : List Int, l = [] := ⟨_, rfl⟩
  have hp0 : p < w.heap.size := (Array.getElem?_eq_some_iff.1 h).1
  have hmm := @run_makeMap Tryz.prog
  have hnn2 : ∀ w : World, (binOp .eql 48 (.map none) (.map none)).run Tryz.prog w = .ok (.bool true) w := fun w => run_eql_map_nil w _ _ _ _ mapUnder
  rw [← hll] at hm0 hl
  rw [← hll]
  clear f2 f3 h hbb hll
  go_enter Tryz.func38, Tryz.ntmps38
  go_wp2_with fail
  refine (stripE_any _ s kind _ (by omega)).mono ?_
  rintro e wa ⟨rfl, hba⟩
  have hma := hm0.below hba
  have hBa := hB0.trans (hba.mono hB0s)
  have hKa := hK0.trans (KeptM.below hba)
  have hBas := Nat.le_trans hB0s hba.size
  clear hm0 hba hK0
  go_wp2_with fail
  refine (splitTrim_any _ (stripE kind s) wa (by omega) (fun w' h => (hT.then hBa) w' (h.mono hBas))).mono ?_
  rintro e wb ⟨v, T, rfl, hown, hTc, hTz, hbb⟩
  obtain ⟨A, c, rfl, hst⟩ := OwnStrs.rd hown
  have hmb := hma.below hbb
  have hBb := hBa.trans (hbb.mono hBas)
  have hKb := hKa.trans (KeptM.below hbb)
  have hBbs := Nat.le_trans hBas hbb.size
  have hoff : Off A p b := fun ad e => by
    subst e
    have h1 := (World.ownsRow.lt hown ad.block rfl).1
    have h2 := hma.lt
    constructor <;> omega
  have hTn : T.length ≤ 100001 := by
    have h1 := split_count 59 (bl (stripE kind s))
    have h2 : T.length = (codesOf (stripE kind s)).length := by rw [← hTc, List.length_map]
    unfold codesOf at h2
    rw [List.length_map] at h2
    have h3 := h1.1
    rw [bl_size] at h3
    omega
  have HP := Lib.hid (parse_eq l s kind hTc)
  obtain ⟨N, hN⟩ : ∃ N, N = T.length := ⟨_, rfl⟩
  rw [← hN] at hst hTn HP ⊢
  clear hma hbb hown hKa hN hTc
  go_wp2_with fail
  refine (proc256_any p b i k vb l A N c T wb hmb hst hoff (fun x hx => by have := hTz x hx; omega) (by omega) (by omega)).mono ?_
  rintro e wc ⟨bi, rfl, hbi, hmc, hsc, hoc⟩
  have hlc := len_proc256 (T.map bl) N 0 (l, [])
  have hstc := hst.only hoc hoff
  have hKc := hKb.trans (hoc.kept hmb.set)
  have hBc := hBb.trans (hoc.toBelow hBp hBbn hBbs)
  have hlt := hmb.lt
  have hBcs := Nat.le_trans hBbs hoc.size
  clear hmb hst hoc hKb
  go_wp2_with fail
  refine (procReg_any p b bi i k vb _ _ A N c T wc hmc hsc (by omega) hstc hoff (fun x hx => by have := hTz x hx; omega) (by omega) (by have h9 : (proc256 (T.map bl) N 0 (l, [])).1.length ≤ l.length + N := hlc.1; omega)).mono ?_
  rintro e wd ⟨rfl, b2, hmd, hb2, hod⟩
  rw [← HP.out] at hmd
  have hKd := hKc.trans (hod.kept hmc.set)
  have hBd := hBc.trans (hod.toBelow hBp hBbn hBcs)
  have hb3 : B ≤ b2 := by rcases hb2 with e | e <;> omega
  go_wp2
  go_end0
  exact ⟨rfl, ⟨b2, hmd, hb3⟩, hBd, hKd⟩
end Go.Proofs.YtlclmpiocbkabaaGreatDoor
