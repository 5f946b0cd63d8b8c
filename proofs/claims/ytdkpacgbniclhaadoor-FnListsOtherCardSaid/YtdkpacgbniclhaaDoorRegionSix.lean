/- The drawn region in laws.FnListsOther, walked over its states and not over its orders. Condition: as its theorem says. Printed by wip/tools/gen_region6.py. -/
import Derived.Test.YtdkpacgbniclhaaDoorListsOtherPre
import Derived.Test.YtdkpacgbniclhaaDoorRegionInv
namespace Go.Proofs.YtdkpacgbniclhaaDoor
open Go.RowKit
set_option linter.unusedVariables false

theorem wpOp_of {P : Program} {ops : Array Oper} {Q : Exit → Act → World → Prop} {i : Nat} {o : Oper} {K : Act → World → Prop} {a : Act} {w : World} (hi : ops[i]? = some o) (hg : o.guard = none) (h : o.wp P a w K Q) : wpOp P ops Q i K a w := by
  have hw : Region.wanted o (yielded ops a.tmps) = true := by simp [Region.wanted, hg]
  unfold wpOp
  rw [hi]
  dsimp only
  rw [if_pos hw]
  exact Or.inl h
/-- What stands in the slots that the region fills. -/
structure V6 where
  s29 : Value
  s33 : Value
  s35 : Value
  s36 : Value
  s37 : Value
  s38 : Value
  s42 : Value
  s8 : Value
def mk6 (a b c d e f g h : Bool) : Array Bool := #[a, true, true, true, b, true, c, d, e, f, true, true, true, g, h]
def noneC : Obj := .cells #[.string ⟨#[110, 111, 110, 101]⟩] 9
def otherV (kd : Int) (v : Value) : Value := .agg #[.int .i64 kd, .string ⟨#[110, 111]⟩, v]
def otherC (kd : Int) (v : Value) : Obj := .cells #[.int .i64 kd, .string ⟨#[110, 111]⟩, v] 26
def XA (B i : Nat) (l : List Step) (x : Nat) (W : World) (v : V6) (row : Option Nat) : Prop :=
  match x with
  | 0 => row = none
  | 1 => ∃ k, v.s29 = .slice (some ⟨k, 0, none⟩) 0 0 ∧ B ≤ k ∧ W.heap[k]? = some (.cells #[] 26) ∧ row = some k
  | _ => (∃ G, OwnSteps W B G v.s33 i (l.take i)) ∧ row = v.s33.ownBlock
def YB (B : Nat) (kd : Int) (y : Nat) (W : World) (v : V6) (row : Option Nat) : Prop :=
  match y with
  | 0 => True
  | 1 => ∃ kb, v.s35 = .slice (some ⟨kb, 0, none⟩) 1 1 ∧ B ≤ kb ∧ W.heap[kb]? = some noneC ∧ some kb ≠ row
  | 2 => ∃ kb, v.s36 = otherV kd (.slice (some ⟨kb, 0, none⟩) 1 1) ∧ B ≤ kb ∧ W.heap[kb]? = some noneC ∧ some kb ≠ row
  | _ => ∃ kb kc, v.s37 = .slice (some ⟨kc, 0, none⟩) 1 1 ∧ B ≤ kb ∧ B ≤ kc ∧ W.heap[kb]? = some noneC ∧ W.heap[kc]? = some (otherC kd (.slice (some ⟨kb, 0, none⟩) 1 1)) ∧ some kb ≠ row ∧ some kc ≠ row
def S6 (w0 : World) (i : Nat) (l : List Step) (kd : Int) (x y : Nat) (v : V6) (W : World) : Prop :=
  Below w0.heap.size w0 W ∧ ∃ row : Option Nat, (∀ k, row = some k → w0.heap.size ≤ k ∧ k < W.heap.size) ∧ XA w0.heap.size i l x W v row ∧ YB w0.heap.size kd y W v row

theorem YB.grown {B : Nat} {kd : Int} {y : Nat} {W W' : World} {v v' : V6} {row row' : Option Nat} (h : YB B kd y W v row) (hg : W.grownBy W' row) (hr : row' = row ∨ row' = some W.heap.size) (h35 : v'.s35 = v.s35) (h36 : v'.s36 = v.s36) (h37 : v'.s37 = v.s37) : YB B kd y W' v' row' := by
  have key : ∀ k o, W.heap[k]? = some o → some k ≠ row → W'.heap[k]? = some o ∧ some k ≠ row' := fun k o hk hne => by
    have hlt := lt_of_some hk
    refine ⟨(hg.block k hlt hne).trans hk, ?_⟩
    rcases hr with e | e
    · rw [e]; exact hne
    · rw [e]; intro e2; injection e2 with e2; omega
  unfold YB at *
  split at h
  · trivial
  · obtain ⟨kb, a1, a2, a3, a4⟩ := h
    exact ⟨kb, h35.trans a1, a2, (key _ _ a3 a4).1, (key _ _ a3 a4).2⟩
  · obtain ⟨kb, a1, a2, a3, a4⟩ := h
    exact ⟨kb, h36.trans a1, a2, (key _ _ a3 a4).1, (key _ _ a3 a4).2⟩
  · obtain ⟨kb, kc, a1, a2, a3, a4, a5, a6, a7⟩ := h
    exact ⟨kb, kc, h37.trans a1, a2, a3, (key _ _ a4 a6).1, (key _ _ a5 a7).1, (key _ _ a4 a6).2, (key _ _ a5 a7).2⟩
theorem XA.alloc {B i : Nat} {l : List Step} {x : Nat} {W : World} {v v' : V6} {row : Option Nat} (h : XA B i l x W v row) (o : Obj) (h29 : v'.s29 = v.s29) (h33 : v'.s33 = v.s33) : XA B i l x (W.alloc o) v' row := by
  unfold XA at *
  split at h
  · exact h
  · obtain ⟨k, a1, a2, a3, a4⟩ := h
    exact ⟨k, h29.trans a1, a2, alloc_miss a3, a4⟩
  · obtain ⟨⟨G, a1⟩, a2⟩ := h
    rw [h33]
    exact ⟨⟨_, (a1.max).below (Below.alloc (Below.refl _ _) (Nat.le_refl _) _)⟩, a2⟩
theorem row_old {B : Nat} {W : World} {row : Option Nat} (h : ∀ k, row = some k → B ≤ k ∧ k < W.heap.size) : some W.heap.size ≠ row := fun e => by have := (h _ e.symm).2; omega
theorem row_alloc {B : Nat} {W : World} {row : Option Nat} (h : ∀ k, row = some k → B ≤ k ∧ k < W.heap.size) (o : Obj) : ∀ k, row = some k → B ≤ k ∧ k < (W.alloc o).heap.size := fun k e => ⟨(h k e).1, by have := (h k e).2; rw [asz]; omega⟩
theorem asz_lt (W : World) (o : Obj) : W.heap.size < (W.alloc o).heap.size := by rw [asz]; omega

theorem region6 {P : Program} {ops : Array Oper} {Q : Exit → Act → World → Prop} (F : V6 → Act) (w0 : World) (i n1 : Nat) (l : List Step) (kd : Int) (A2 : Option Addr) (m2 c2 : Nat) (A1 : Option Addr) (c1 : Nat) (hn1 : i ≤ 80 ∧ m2 ≤ 80) (hm2 : i + 1 + m2 = n1 + 1)
    (hsa : ∀ W, Below w0.heap.size w0 W → SrcSteps W (fun k => k < w0.heap.size) A1 i c1 (l.take i)) (hsb : ∀ W, Below w0.heap.size w0 W → SrcSteps W (fun k => k < w0.heap.size) A2 m2 c2 (l.drop i))
    (p0 : ∀ v W K, K (F { v with s29 := .slice (some ⟨W.heap.size, 0, none⟩) 0 0 }) (W.alloc (.cells #[] 26)) → wpOp P ops Q 0 K (F v) W)
    (p4 : ∀ v W K G n q, OwnSteps W w0.heap.size G v.s29 n q → SrcSteps W G A1 i c1 (l.take i) → n + i ≤ 1099511627776 → w0.heap.size ≤ W.heap.size → (∀ v' w', OwnSteps w' w0.heap.size G v' (n + i) (q ++ l.take i) → W.grownBy w' v.s29.ownBlock → (v'.ownBlock = v.s29.ownBlock ∨ v'.ownBlock = some W.heap.size) → K (F { v with s33 := v' }) w') → wpOp P ops Q 4 K (F v) W)
    (p6 : ∀ v W K, K (F { v with s35 := .slice (some ⟨W.heap.size, 0, none⟩) 1 1 }) (W.alloc noneC) → wpOp P ops Q 6 K (F v) W)
    (p7 : ∀ v W K kb, v.s35 = .slice (some ⟨kb, 0, none⟩) 1 1 → K (F { v with s36 := otherV kd (.slice (some ⟨kb, 0, none⟩) 1 1) }) W → wpOp P ops Q 7 K (F v) W)
    (p8 : ∀ v W K kb, v.s36 = otherV kd (.slice (some ⟨kb, 0, none⟩) 1 1) → K (F { v with s37 := .slice (some ⟨W.heap.size, 0, none⟩) 1 1 }) (W.alloc (otherC kd (.slice (some ⟨kb, 0, none⟩) 1 1))) → wpOp P ops Q 8 K (F v) W)
    (p9 : ∀ v W K G n q A m c q', OwnSteps W w0.heap.size G v.s33 n q → v.s37 = .slice A m c → SrcSteps W G A m c q' → n + m ≤ 1099511627776 → w0.heap.size ≤ W.heap.size → (∀ v' w', OwnSteps w' w0.heap.size G v' (n + m) (q ++ q') → W.grownBy w' v.s33.ownBlock → (v'.ownBlock = v.s33.ownBlock ∨ v'.ownBlock = some W.heap.size) → K (F { v with s38 := v' }) w') → wpOp P ops Q 9 K (F v) W)
    (p13 : ∀ v W K G n q, OwnSteps W w0.heap.size G v.s38 n q → SrcSteps W G A2 m2 c2 (l.drop i) → n + m2 ≤ 1099511627776 → w0.heap.size ≤ W.heap.size → (∀ v' w', OwnSteps w' w0.heap.size G v' (n + m2) (q ++ l.drop i) → W.grownBy w' v.s38.ownBlock → (v'.ownBlock = v.s38.ownBlock ∨ v'.ownBlock = some W.heap.size) → K (F { v with s42 := v' }) w') → wpOp P ops Q 13 K (F v) W)
    (p14 : ∀ v W K, K (F { v with s8 := v.s42 }) W → wpOp P ops Q 14 K (F v) W)
    (r00 : Region.ready .any ops (mk6 false false false false false false false false) = [0, 6])
    (r01 : Region.ready .any ops (mk6 false false true false false false false false) = [0, 7])
    (r02 : Region.ready .any ops (mk6 false false true true false false false false) = [0, 8])
    (r03 : Region.ready .any ops (mk6 false false true true true false false false) = [0])
    (r10 : Region.ready .any ops (mk6 true false false false false false false false) = [4, 6])
    (r11 : Region.ready .any ops (mk6 true false true false false false false false) = [4, 7])
    (r12 : Region.ready .any ops (mk6 true false true true false false false false) = [4, 8])
    (r13 : Region.ready .any ops (mk6 true false true true true false false false) = [4])
    (r20 : Region.ready .any ops (mk6 true true false false false false false false) = [6])
    (r21 : Region.ready .any ops (mk6 true true true false false false false false) = [7])
    (r22 : Region.ready .any ops (mk6 true true true true false false false false) = [8])
    (r23 : Region.ready .any ops (mk6 true true true true true false false false) = [9])
    (rc : Region.ready .any ops (mk6 true true true true true true false false) = [13])
    (rd : Region.ready .any ops (mk6 true true true true true true true false) = [14])
    (re : Region.ready .any ops (mk6 true true true true true true true true) = [])
    (fin : ∀ v W, Below w0.heap.size w0 W → (∃ G, OwnSteps W w0.heap.size G v.s8 (n1 + 1) (l.take i ++ [otherS kd] ++ l.drop i)) → Q .normal (F v) W) :
    ∀ v W, Below w0.heap.size w0 W → wpAny P .any ops Q 8 (mk6 false false false false false false false false) (F v) W := by
  have kd14 : ∀ v W, Below w0.heap.size w0 W → (∃ G, OwnSteps W w0.heap.size G v.s42 (n1 + 1) (l.take i ++ [otherS kd] ++ l.drop i)) → wpAny P .any ops Q 1 (mk6 true true true true true true true false) (F v) W := by
    intro v W hb ho
    refine wpAny_all rd (by simp) fun j hj => ?_
    simp at hj
    subst hj
    exact p14 v W _ (wpAny_done re (fin _ W hb ho) 0)
  have kc13 : ∀ v W, Below w0.heap.size w0 W → (∃ G, OwnSteps W w0.heap.size G v.s38 (i + 1) (l.take i ++ [otherS kd])) → wpAny P .any ops Q 2 (mk6 true true true true true true false false) (F v) W := by
    rintro v W hb ⟨G, ho⟩
    refine wpAny_all rc (by simp) fun j hj => ?_
    simp at hj
    subst hj
    refine p13 v W _ _ _ _ ho.max ((hsb W hb).weak fun k hk => ⟨by have := hb.size; omega, own_under ho hk⟩) (by omega) hb.size fun v' w' h1 h2 h3 => ?_
    rw [hm2] at h1
    exact kd14 _ w' (hb.grown h2 hb.size fun k hk => (ho.lt hk).1) ⟨_, h1⟩
  have k23 : ∀ v W, S6 w0 i l kd 2 3 v W → wpAny P .any ops Q 3 (mk6 true true true true true false false false) (F v) W := by
    rintro v W ⟨hb, row, hrow, hx, hy⟩
    refine wpAny_all r23 (by simp) fun j hj => ?_
    simp at hj
    subst hj
    obtain ⟨⟨G, ho⟩, rfl⟩ := hx
    obtain ⟨kb, kc, e37, a2, a3, a4, a5, a6, a7⟩ := hy
    refine p9 v W _ _ _ _ _ _ _ [otherS kd] ho.max e37 (src_other kb a5 a4 ⟨lt_of_some a4, a6⟩) (by omega) hb.size fun v' w' h1 h2 h3 => ?_
    exact kc13 _ w' (hb.grown h2 hb.size fun k hk => (ho.lt hk).1) ⟨_, h1⟩
  have k13 : ∀ v W, S6 w0 i l kd 1 3 v W → wpAny P .any ops Q 4 (mk6 true false true true true false false false) (F v) W := by
    rintro v W ⟨hb, row, hrow, hx, hy⟩
    refine wpAny_all r13 (by simp) fun j hj => ?_
    simp at hj
    subst hj
    obtain ⟨k, e29, hBk, hk, rfl⟩ := hx
    have ho := OwnSteps.empty_at hBk hk
    rw [← e29] at ho
    have hob : v.s29.ownBlock = some k := by rw [e29]; rfl
    refine p4 v W _ _ _ _ ho.max ((hsa W hb).weak fun j hj => ⟨by have := hb.size; omega, own_under ho hj⟩) (by omega) hb.size fun v' w' h1 h2 h3 => ?_
    rw [Nat.zero_add, List.nil_append] at h1
    refine k23 _ w' ⟨hb.grown h2 hb.size fun k hk => (ho.lt hk).1, v'.ownBlock, fun k e => h1.lt e, ⟨⟨_, h1⟩, rfl⟩, ?_⟩
    rw [hob] at h2 h3
    exact hy.grown h2 h3 rfl rfl rfl
  have k22 : ∀ v W, S6 w0 i l kd 2 2 v W → wpAny P .any ops Q 4 (mk6 true true true true false false false false) (F v) W := by
    rintro v W ⟨hb, row, hrow, hx, hy⟩
    refine wpAny_all r22 (by simp) fun j hj => ?_
    simp at hj
    subst hj
    obtain ⟨kb, e36, a2, a3, a4⟩ := hy
    exact p8 v W _ _ e36 (k23 _ _ ⟨hb.alloc (by have := hb.size; omega) _, row, row_alloc hrow _, hx.alloc _ rfl rfl, kb, _, rfl, a2, hb.size, alloc_miss a3, alloc_hit rfl, a4, row_old hrow⟩)
  have k03 : ∀ v W, S6 w0 i l kd 0 3 v W → wpAny P .any ops Q 5 (mk6 false false true true true false false false) (F v) W := by
    rintro v W ⟨hb, row, hrow, hx, hy⟩
    refine wpAny_all r03 (by simp) fun j hj => ?_
    simp at hj
    subst hj
    refine p0 v W _ (k13 _ _ ⟨hb.alloc (by have := hb.size; omega) _, some W.heap.size, fun k e => ?_, ⟨_, rfl, hb.size, alloc_hit rfl, rfl⟩, ?_⟩)
    · injection e with e
      subst e
      exact ⟨hb.size, asz_lt _ _⟩
    · cases (show row = none from hx)
      exact hy.grown (World.grownBy_alloc W _ _) (Or.inr rfl) rfl rfl rfl
  have k12 : ∀ v W, S6 w0 i l kd 1 2 v W → wpAny P .any ops Q 5 (mk6 true false true true false false false false) (F v) W := by
    rintro v W ⟨hb, row, hrow, hx, hy⟩
    refine wpAny_all r12 (by simp) fun j hj => ?_
    simp only [List.mem_cons, List.not_mem_nil, or_false] at hj
    rcases hj with rfl | rfl
    · obtain ⟨k, e29, hBk, hk, rfl⟩ := hx
      have ho := OwnSteps.empty_at hBk hk
      rw [← e29] at ho
      have hob : v.s29.ownBlock = some k := by rw [e29]; rfl
      refine p4 v W _ _ _ _ ho.max ((hsa W hb).weak fun j hj => ⟨by have := hb.size; omega, own_under ho hj⟩) (by omega) hb.size fun v' w' h1 h2 h3 => ?_
      rw [Nat.zero_add, List.nil_append] at h1
      refine k22 _ w' ⟨hb.grown h2 hb.size fun k hk => (ho.lt hk).1, v'.ownBlock, fun k e => h1.lt e, ⟨⟨_, h1⟩, rfl⟩, ?_⟩
      rw [hob] at h2 h3
      exact hy.grown h2 h3 rfl rfl rfl
    · obtain ⟨kb, e36, a2, a3, a4⟩ := hy
      exact p8 v W _ _ e36 (k13 _ _ ⟨hb.alloc (by have := hb.size; omega) _, row, row_alloc hrow _, hx.alloc _ rfl rfl, kb, _, rfl, a2, hb.size, alloc_miss a3, alloc_hit rfl, a4, row_old hrow⟩)
  have k21 : ∀ v W, S6 w0 i l kd 2 1 v W → wpAny P .any ops Q 5 (mk6 true true true false false false false false) (F v) W := by
    rintro v W ⟨hb, row, hrow, hx, hy⟩
    refine wpAny_all r21 (by simp) fun j hj => ?_
    simp at hj
    subst hj
    obtain ⟨kb, e35, a2, a3, a4⟩ := hy
    exact p7 v W _ _ e35 (k22 _ _ ⟨hb, row, hrow, hx, kb, rfl, a2, a3, a4⟩)
  have k02 : ∀ v W, S6 w0 i l kd 0 2 v W → wpAny P .any ops Q 6 (mk6 false false true true false false false false) (F v) W := by
    rintro v W ⟨hb, row, hrow, hx, hy⟩
    refine wpAny_all r02 (by simp) fun j hj => ?_
    simp only [List.mem_cons, List.not_mem_nil, or_false] at hj
    rcases hj with rfl | rfl
    · refine p0 v W _ (k12 _ _ ⟨hb.alloc (by have := hb.size; omega) _, some W.heap.size, fun k e => ?_, ⟨_, rfl, hb.size, alloc_hit rfl, rfl⟩, ?_⟩)
      · injection e with e
        subst e
        exact ⟨hb.size, asz_lt _ _⟩
      · cases (show row = none from hx)
        exact hy.grown (World.grownBy_alloc W _ _) (Or.inr rfl) rfl rfl rfl
    · obtain ⟨kb, e36, a2, a3, a4⟩ := hy
      exact p8 v W _ _ e36 (k03 _ _ ⟨hb.alloc (by have := hb.size; omega) _, row, row_alloc hrow _, hx.alloc _ rfl rfl, kb, _, rfl, a2, hb.size, alloc_miss a3, alloc_hit rfl, a4, row_old hrow⟩)
  have k11 : ∀ v W, S6 w0 i l kd 1 1 v W → wpAny P .any ops Q 6 (mk6 true false true false false false false false) (F v) W := by
    rintro v W ⟨hb, row, hrow, hx, hy⟩
    refine wpAny_all r11 (by simp) fun j hj => ?_
    simp only [List.mem_cons, List.not_mem_nil, or_false] at hj
    rcases hj with rfl | rfl
    · obtain ⟨k, e29, hBk, hk, rfl⟩ := hx
      have ho := OwnSteps.empty_at hBk hk
      rw [← e29] at ho
      have hob : v.s29.ownBlock = some k := by rw [e29]; rfl
      refine p4 v W _ _ _ _ ho.max ((hsa W hb).weak fun j hj => ⟨by have := hb.size; omega, own_under ho hj⟩) (by omega) hb.size fun v' w' h1 h2 h3 => ?_
      rw [Nat.zero_add, List.nil_append] at h1
      refine k21 _ w' ⟨hb.grown h2 hb.size fun k hk => (ho.lt hk).1, v'.ownBlock, fun k e => h1.lt e, ⟨⟨_, h1⟩, rfl⟩, ?_⟩
      rw [hob] at h2 h3
      exact hy.grown h2 h3 rfl rfl rfl
    · obtain ⟨kb, e35, a2, a3, a4⟩ := hy
      exact p7 v W _ _ e35 (k12 _ _ ⟨hb, row, hrow, hx, kb, rfl, a2, a3, a4⟩)
  have k20 : ∀ v W, S6 w0 i l kd 2 0 v W → wpAny P .any ops Q 6 (mk6 true true false false false false false false) (F v) W := by
    rintro v W ⟨hb, row, hrow, hx, hy⟩
    refine wpAny_all r20 (by simp) fun j hj => ?_
    simp at hj
    subst hj
    exact p6 v W _ (k21 _ _ ⟨hb.alloc (by have := hb.size; omega) _, row, row_alloc hrow _, hx.alloc _ rfl rfl, _, rfl, hb.size, alloc_hit rfl, row_old hrow⟩)
  have k01 : ∀ v W, S6 w0 i l kd 0 1 v W → wpAny P .any ops Q 7 (mk6 false false true false false false false false) (F v) W := by
    rintro v W ⟨hb, row, hrow, hx, hy⟩
    refine wpAny_all r01 (by simp) fun j hj => ?_
    simp only [List.mem_cons, List.not_mem_nil, or_false] at hj
    rcases hj with rfl | rfl
    · refine p0 v W _ (k11 _ _ ⟨hb.alloc (by have := hb.size; omega) _, some W.heap.size, fun k e => ?_, ⟨_, rfl, hb.size, alloc_hit rfl, rfl⟩, ?_⟩)
      · injection e with e
        subst e
        exact ⟨hb.size, asz_lt _ _⟩
      · cases (show row = none from hx)
        exact hy.grown (World.grownBy_alloc W _ _) (Or.inr rfl) rfl rfl rfl
    · obtain ⟨kb, e35, a2, a3, a4⟩ := hy
      exact p7 v W _ _ e35 (k02 _ _ ⟨hb, row, hrow, hx, kb, rfl, a2, a3, a4⟩)
  have k10 : ∀ v W, S6 w0 i l kd 1 0 v W → wpAny P .any ops Q 7 (mk6 true false false false false false false false) (F v) W := by
    rintro v W ⟨hb, row, hrow, hx, hy⟩
    refine wpAny_all r10 (by simp) fun j hj => ?_
    simp only [List.mem_cons, List.not_mem_nil, or_false] at hj
    rcases hj with rfl | rfl
    · obtain ⟨k, e29, hBk, hk, rfl⟩ := hx
      have ho := OwnSteps.empty_at hBk hk
      rw [← e29] at ho
      have hob : v.s29.ownBlock = some k := by rw [e29]; rfl
      refine p4 v W _ _ _ _ ho.max ((hsa W hb).weak fun j hj => ⟨by have := hb.size; omega, own_under ho hj⟩) (by omega) hb.size fun v' w' h1 h2 h3 => ?_
      rw [Nat.zero_add, List.nil_append] at h1
      refine k20 _ w' ⟨hb.grown h2 hb.size fun k hk => (ho.lt hk).1, v'.ownBlock, fun k e => h1.lt e, ⟨⟨_, h1⟩, rfl⟩, ?_⟩
      rw [hob] at h2 h3
      exact hy.grown h2 h3 rfl rfl rfl
    · exact p6 v W _ (k11 _ _ ⟨hb.alloc (by have := hb.size; omega) _, row, row_alloc hrow _, hx.alloc _ rfl rfl, _, rfl, hb.size, alloc_hit rfl, row_old hrow⟩)
  have k00 : ∀ v W, S6 w0 i l kd 0 0 v W → wpAny P .any ops Q 8 (mk6 false false false false false false false false) (F v) W := by
    rintro v W ⟨hb, row, hrow, hx, hy⟩
    refine wpAny_all r00 (by simp) fun j hj => ?_
    simp only [List.mem_cons, List.not_mem_nil, or_false] at hj
    rcases hj with rfl | rfl
    · refine p0 v W _ (k10 _ _ ⟨hb.alloc (by have := hb.size; omega) _, some W.heap.size, fun k e => ?_, ⟨_, rfl, hb.size, alloc_hit rfl, rfl⟩, ?_⟩)
      · injection e with e
        subst e
        exact ⟨hb.size, asz_lt _ _⟩
      · cases (show row = none from hx)
        exact hy.grown (World.grownBy_alloc W _ _) (Or.inr rfl) rfl rfl rfl
    · exact p6 v W _ (k01 _ _ ⟨hb.alloc (by have := hb.size; omega) _, row, row_alloc hrow _, hx.alloc _ rfl rfl, _, rfl, hb.size, alloc_hit rfl, row_old hrow⟩)
  exact fun v W hb => k00 v W ⟨hb, none, fun k e => (by cases e), rfl, trivial⟩
end Go.Proofs.YtdkpacgbniclhaaDoor
