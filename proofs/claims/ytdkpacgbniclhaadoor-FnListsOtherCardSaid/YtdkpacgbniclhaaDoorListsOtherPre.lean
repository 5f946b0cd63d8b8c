/- Plain words on slices of steps, for laws.FnListsOther. -/
import Derived.Test.YtdkpacgbniclhaaDoorListsUn
import Derived.Deep.AppendLies
import Derived.Deep.Slices
import Derived.Deep.RegionHeld3
namespace Go.Proofs.YtdkpacgbniclhaaDoor
open Go.RowKit
set_option linter.unusedVariables false

theorem play_none {s : Step} (h : ¬ (0 ≤ s.kind ∧ s.kind ≤ 5)) (st : List (ByteArray × Nat) × Nat) : playStep st s = st := by
  unfold playStep
  rw [if_neg (by omega), if_neg (by omega), if_neg (by omega), if_neg (by omega), if_neg (by omega), if_neg (by omega)]
theorem played_none {s : Step} (h : ¬ (0 ≤ s.kind ∧ s.kind ≤ 5)) (a b : List Step) : played (a ++ [s] ++ b) = played (a ++ b) := by
  unfold played
  simp only [List.foldl_append, List.foldl_cons, List.foldl_nil, play_none h]

/-- A row with nothing in it, wherever it was laid. -/
theorem OwnSteps.empty_at {w : World} {B k : Nat} (hB : B ≤ k) (hk : w.heap[k]? = some (.cells #[] 26)) : OwnSteps w B (fun j => j < B) (.slice (some ⟨k, 0, none⟩) 0 0) 0 [] := by
  have hlt : k < w.heap.size := (Array.getElem?_eq_some_iff.1 hk).1
  refine ⟨[], ⟨rfl, Or.inr ⟨k, 0, #[], rfl, hB, ?_, Nat.le_refl _, Nat.zero_le _, rfl, rfl⟩⟩, rfl, fun j hj => ⟨by omega, ?_⟩, fun j s hj => by simp at hj⟩
  · exact hk
  · show some j ≠ some k
    intro e
    injection e with e
    omega
/-- The places may be all that are not its own. -/
theorem OwnSteps.max {w : World} {B n : Nat} {G : Nat → Prop} {v : Value} {l : List Step} (h : OwnSteps w B G v n l) : OwnSteps w B (fun k => k < w.heap.size ∧ some k ≠ v.ownBlock) v n l := by
  obtain ⟨xs, h1, h2, hG, h3⟩ := h
  exact ⟨xs, h1, h2, fun k hk => hk, fun k s hk => (h3 k s hk).weak hG⟩
theorem SrcSteps.weak {w : World} {G G' : Nat → Prop} {A : Option Addr} {m c : Nat} {l : List Step} (h : SrcSteps w G A m c l) (hG : ∀ k, G k → G' k) : SrcSteps w G' A m c l := by
  obtain ⟨xs, h1, h2, h3, h4, h5⟩ := h
  exact ⟨xs, h1, h2, h3, h4, fun k s hk => (h5 k s hk).weak hG⟩
/-- A step with one text, the step and the text laid by themselves. -/
theorem src_text {w : World} {G : Nat → Prop} {kc kb : Nat} {fr fr2 : Nat × Nat} {kd : Int} {t u : ByteArray} (hc : w.heap[kc]? = some (.cells #[.int .i64 kd, .string t, .slice (some ⟨kb, 0, none⟩) 1 1] 26 fr)) (hb : w.heap[kb]? = some (.cells #[.string u] 9 fr2)) (hG : G kb) : SrcSteps w G (some ⟨kc, 0, none⟩) 1 1 [⟨kd, t, [u]⟩] := by
  refine ⟨[.int .i64 kd, .string t, .slice (some ⟨kb, 0, none⟩) 1 1], rfl, fun e => (by cases e), fun ad e => ?_, rfl, fun k s hk => ?_⟩
  · injection e with e
    subst e
    exact World.news_of_block (cs := #[.int .i64 kd, .string t, .slice (some ⟨kb, 0, none⟩) 1 1]) hc
  · match k, hk with
    | 0, hk =>
      simp at hk
      subst hk
      refine ⟨some ⟨kb, 0, none⟩, 1, 1, rfl, rfl, rfl, ?_, fun _ ad e => by injection e with e; subst e; exact hG⟩
      refine ⟨rfl, Nat.le_refl _, by omega, fun _ => ⟨_, rfl, (Array.getElem?_eq_some_iff.1 hb).1, ?_⟩⟩
      exact World.news_of_block (cs := #[.string u]) hb
    | k + 1, hk => simp at hk

theorem wp_append_steps {o : Oper} {a : Act} {K : Act → World → Prop} {Q : Exit → Act → World → Prop} {w : World} (s x : Operand)
    (ho : o.op = .call { callee := .builtin .append, args := #[s, x], argTypes := #[22, 22] })
    (B : Nat) (G : Nat → Prop) (v : Value) (n : Nat) (l : List Step) (hs : a.eval s = v) (hown : OwnSteps w B G v n l) (A : Option Addr) (m c : Nat) (l' : List Step) (hx : a.eval x = .slice A m c) (hsrc : SrcSteps w G A m c l')
    (hn : n + m ≤ 1099511627776) (hB : B ≤ w.heap.size)
    (hK : ∀ v' w', OwnSteps w' B G v' (n + m) (l ++ l') → w.grownBy w' v.ownBlock → (v'.ownBlock = v.ownBlock ∨ v'.ownBlock = some w.heap.size) → K (a.put o.dst v') w') : o.wp Tryd.prog a w K Q := by
  obtain ⟨i0, hi, hz0, hz1, hz2⟩ := info_parts infoStep
  obtain ⟨xs, h1, h2, hG, h3⟩ := hown
  obtain ⟨ys, g1, g0, gc, g2, g3⟩ := hsrc
  cases A with
  | none =>
    obtain ⟨rfl, rfl⟩ := g0 rfl
    obtain rfl := List.eq_nil_of_length_eq_zero g2
    have hrun := run_append_owned_none (P := Tryd.prog) (w := w) B 22 o.type 26 i0 3 Tryd.underlying22 hi v n xs h1
    unfold Oper.wp
    simp [execOp, ho, resolve, invoke, builtin, hs, hx, hrun, Result.andThen]
    exact hK v w ⟨xs, h1, by simpa using h2, hG, fun k s hk => h3 k s (by simpa using hk)⟩ (World.grownBy.refl _ _) (Or.inl rfl)
  | some ad =>
    obtain ⟨v', w', hr, hown', hgrow, _, hloc⟩ := run_append_own_at (P := Tryd.prog) w B 22 o.type 26 i0 (.agg #[.int .i64 0, .string ⟨#[]⟩, .slice none 0 0]) 3 48 Tryd.underlying22 hi hz0 hz1 hz2 rfl (by decide) v n xs h1 ad m c ys g1 (gc ad rfl) (steps_one g1 g2 g3) (by unfold maxLen; omega) (by omega) hB
    have hG' : ∀ k, G k → k < w'.heap.size ∧ some k ≠ v'.ownBlock := by
      intro k hk
      have hk2 := hG k hk
      refine ⟨by have := hgrow.size; omega, ?_⟩
      rcases hloc with h | h
      · rw [h]; exact hk2.2
      · rw [h]; intro e; injection e with e; omega
    unfold Oper.wp execOp
    simp only [ho, resolve, invoke, builtin, Sem.run_bind, Sem.run_pure, Result.andThen_ok, List.map_toArray, List.map_cons, List.map_nil, hs, hx, hr]
    refine hK v' w' ⟨xs ++ ys, hown', by rw [List.length_append, h2, g2], hG', fun k s hk => ?_⟩ hgrow hloc
    rcases Nat.lt_or_ge k n with hkn | hkn
    · rw [List.getElem?_append_left (by omega)] at hk
      exact ((h3 k s hk).grown hgrow fun k hk => (hG k hk).2).left ys
    · rw [List.getElem?_append_right (by omega), h2] at hk
      have := ((g3 _ s hk).grown hgrow fun k hk => (hG k hk).2).right (xs := xs) (n := n) (by have := h1.1; omega)
      rw [show n + (k - n) = k by omega] at this
      exact this

/-- 'append(v, x...)' at a step of a region that draws. -/
theorem step_append_steps {ops : Array Oper} {o : Oper} {a : Act} {K : Act → World → Prop} {Q : Exit → Act → World → Prop} {E : Prop} {w : World} (hgd : o.guard = none) (s x : Operand)
    (ho : o.op = .call { callee := .builtin .append, args := #[s, x], argTypes := #[22, 22] })
    (B : Nat) (G : Nat → Prop) (v : Value) (n : Nat) (l : List Step) (hs : a.eval s = v) (hown : OwnSteps w B G v n l) (A : Option Addr) (m c : Nat) (l' : List Step) (hx : a.eval x = .slice A m c) (hsrc : SrcSteps w G A m c l')
    (hn : n + m ≤ 1099511627776) (hB : B ≤ w.heap.size)
    (hK : ∀ v' w', OwnSteps w' B G v' (n + m) (l ++ l') → w.grownBy w' v.ownBlock → (v'.ownBlock = v.ownBlock ∨ v'.ownBlock = some w.heap.size) → K (a.put o.dst v') w') :
    if Region.wanted o (yielded ops a.tmps) = true then Oper.wp Tryd.prog o a w K Q else E := by
  have hw : Region.wanted o (yielded ops a.tmps) = true := by simp [Region.wanted, hgd]
  rw [if_pos hw]
  exact wp_append_steps s x ho B G v n l hs hown A m c l' hx hsrc hn hB hK

/-- Pieces of a slice of steps that came in. -/
theorem StepsAt.take {w : World} {B n c i : Nat} {A : Option Addr} {l : List Step} (h : StepsAt w B A n c l) (hi : i ≤ n) : StepsAt w B A i c (l.take i) := by
  obtain ⟨xs, h1, h2, h3⟩ := h
  refine ⟨xs.take (i * 3), ⟨by rw [List.length_take, h1.len]; omega, by have := h1.cap; omega, h1.small, fun hn => ?_⟩, by rw [List.length_take]; omega, fun k s hk => ?_⟩
  · obtain ⟨ad, e, hb, hc⟩ := h1.cells (by omega)
    refine ⟨ad, e, hb, fun j v hj => hc j v ?_⟩
    rw [List.getElem?_take] at hj
    split at hj
    · exact hj
    · cases hj
  · rw [List.getElem?_take] at hk
    split at hk
    · obtain ⟨A', n', c', a1, a2, a3, a4⟩ := h3 k s hk
      exact ⟨A', n', c', by rw [List.getElem?_take, if_pos (by omega)]; exact a1, by rw [List.getElem?_take, if_pos (by omega)]; exact a2, by rw [List.getElem?_take, if_pos (by omega)]; exact a3, a4⟩
    · cases hk
theorem StepsAt.drop {w : World} {B n c i : Nat} {ad : Addr} {l : List Step} (h : StepsAt w B (some ad) n c l) (hi : i ≤ n) : StepsAt w B (some (ad.add (i * 3))) (n - i) (c - i) (l.drop i) := by
  obtain ⟨xs, h1, h2, h3⟩ := h
  refine ⟨xs.drop (i * 3), ⟨by rw [List.length_drop, h1.len]; omega, by have := h1.cap; omega, by have := h1.small; omega, fun hn => ?_⟩, by rw [List.length_drop]; omega, fun k s hk => ?_⟩
  · obtain ⟨ad', e, hb, hc⟩ := h1.cells (by omega)
    injection e with e
    subst e
    refine ⟨_, rfl, by rw [add_block]; exact hb, fun j v hj => ?_⟩
    rw [List.getElem?_drop] at hj
    have := hc _ v hj
    rw [Go.Deep.add_add]
    exact this
  · rw [List.getElem?_drop] at hk
    obtain ⟨A', n', c', a1, a2, a3, a4⟩ := h3 _ s hk
    exact ⟨A', n', c', by rw [List.getElem?_drop]; rw [show i * 3 + 3 * k = 3 * (i + k) by omega]; exact a1, by rw [List.getElem?_drop]; rw [show i * 3 + (3 * k + 1) = 3 * (i + k) + 1 by omega]; exact a2, by rw [List.getElem?_drop]; rw [show i * 3 + (3 * k + 2) = 3 * (i + k) + 2 by omega]; exact a3, a4⟩

theorem alloc_get (w : World) (o : Obj) (k : Nat) : (w.alloc o).heap[k]? = if k = w.heap.size then some o else w.heap[k]? := by
  split
  · next h => rw [h]; exact heap_alloc_new w o
  · next h =>
    rcases Nat.lt_or_ge k w.heap.size with h2 | h2
    · exact heap_alloc_old w o h2
    · rw [Array.getElem?_eq_none (by simp; omega), Array.getElem?_eq_none h2]
theorem drew_get (w : World) (k : Nat) : w.drew.heap[k]? = w.heap[k]? := rfl
theorem grown_keep {W w1 : World} {k0 k : Nat} {o : Obj} (hg : W.grownBy w1 (some k0)) (h : W.heap[k]? = some o) (hne : k ≠ k0) : w1.heap[k]? = some o :=
  (hg.block k (Array.getElem?_eq_some_iff.1 h).1 (fun e => hne (by injection e))).trans h
theorem own_far {v : Value} {k0 n k : Nat} (ho : v.ownBlock = some k0 ∨ v.ownBlock = some n) (h1 : k ≠ k0) (h2 : k ≠ n) : some k ≠ v.ownBlock := by
  rcases ho with h | h
  · rw [h]; intro e; injection e with e; exact h1 e
  · rw [h]; intro e; injection e with e; exact h2 e
theorem own_past {w1 : World} {v : Value} {B n : Nat} {G : Nat → Prop} {l : List Step} (h : OwnSteps w1 B G v n l) {k : Nat} (hk : w1.heap.size ≤ k) : some k ≠ v.ownBlock := fun e => by have := (h.lt e.symm).2; omega
theorem own_under {w1 : World} {v : Value} {B n : Nat} {G : Nat → Prop} {l : List Step} (h : OwnSteps w1 B G v n l) {k : Nat} (hk : k < B) : some k ≠ v.ownBlock := fun e => by have := (h.lt e.symm).1; omega

/-- What the statement's step holds. -/
def otherS (kd : Int) : Step := ⟨kd, ⟨#[110, 111]⟩, [⟨#[110, 111, 110, 101]⟩]⟩

theorem alloc_hit {w : World} {o : Obj} {k : Nat} (h : k = w.heap.size) : (w.alloc o).heap[k]? = some o := by rw [h]; exact heap_alloc_new w o
theorem alloc_miss {w : World} {o o' : Obj} {k : Nat} (h : w.heap[k]? = some o') : (w.alloc o).heap[k]? = some o' := (heap_alloc_old w o (Array.getElem?_eq_some_iff.1 h).1).trans h
theorem drew_hit {w : World} {o : Obj} {k : Nat} (h : w.heap[k]? = some o) : w.drew.heap[k]? = some o := h
theorem lt_of_some {w : World} {o : Obj} {k : Nat} (h : w.heap[k]? = some o) : k < w.heap.size := (Array.getElem?_eq_some_iff.1 h).1
theorem past2 {w W w1 w2 : World} {v1 : Value} {G : Nat → Prop} {n : Nat} {l : List Step} (hb : Below w.heap.size w W) (hg : W.grownBy w2 v1.ownBlock) (h1 : OwnSteps w1 w.heap.size G v1 n l) : Below w.heap.size w w2 ∧ ∀ k, k < w.heap.size → k < W.heap.size ∧ some k ≠ v1.ownBlock :=
  ⟨hb.grown hg hb.size (fun k hk => (h1.lt hk).1), fun k hk => ⟨by have := hb.size; omega, own_under h1 hk⟩⟩
theorem src_other {w : World} {G : Nat → Prop} {kc : Nat} (kb : Nat) {kd : Int} (hc : w.heap[kc]? = some (.cells #[.int .i64 kd, .string ⟨#[110, 111]⟩, .slice (some ⟨kb, 0, none⟩) 1 1] 26)) (hb : w.heap[kb]? = some (.cells #[.string ⟨#[110, 111, 110, 101]⟩] 9)) (hG : G kb) : SrcSteps w G (some ⟨kc, 0, none⟩) 1 1 [otherS kd] := src_text hc hb hG

theorem no_plain : plainT ⟨#[110, 111]⟩ := ⟨by decide, by decide, by decide⟩
theorem none_plain : plainT ⟨#[110, 111, 110, 101]⟩ := ⟨by decide, by decide, by decide⟩
theorem other_plain (kd : Int) : plainS (otherS kd) := ⟨no_plain, fun t ht => by rw [List.mem_singleton.1 ht]; exact none_plain⟩
theorem asz (w : World) (o : Obj) : (w.alloc o).heap.size = w.heap.size + 1 := by simp
end Go.Proofs.YtdkpacgbniclhaaDoor
