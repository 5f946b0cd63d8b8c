/- Plain words on memory: a slice of steps of the program's own make, and what appending does to it. Condition: sizes below the bound that is named. -/
import Derived.Test.YtdkpacgbniclhaaGreatDoorSteps
import Derived.Test.YtdkpacgbniclhaaGreatDoorOpen
import Derived.Laws.AppendOwnNone
namespace Go.Proofs.YtdkpacgbniclhaaGreatDoor
open Go.RowKit

/-- The cells of a step; its texts lie in blocks that are G. -/
def InAt (w : World) (G : Nat → Prop) (xs : List Value) (k : Nat) (s : Step) : Prop :=
  ∃ A' n' c', xs[3 * k]? = some (.int .i64 s.kind) ∧ xs[3 * k + 1]? = some (.string s.text) ∧ xs[3 * k + 2]? = some (.slice A' n' c') ∧ StrsAt w w.heap.size A' n' c' s.texts ∧ (0 < n' → ∀ ad, A' = some ad → G ad.block)
def OwnSteps (w : World) (B : Nat) (G : Nat → Prop) (v : Value) (n : Nat) (l : List Step) : Prop :=
  ∃ xs, w.ownsRow B 66 3 v n xs ∧ l.length = n ∧ (∀ k, G k → k < w.heap.size ∧ some k ≠ v.ownBlock) ∧ ∀ k s, l[k]? = some s → InAt w G xs k s
/-- What is appended. -/
def SrcSteps (w : World) (G : Nat → Prop) (A : Option Addr) (m c : Nat) (l : List Step) : Prop :=
  ∃ xs, xs.length = m * 3 ∧ (A = none → m = 0 ∧ c = 0) ∧ (∀ ad, A = some ad → ∀ j v, xs[j]? = some v → w.cell? (ad.add j) = some v) ∧ l.length = m ∧ ∀ k s, l[k]? = some s → InAt w G xs k s

theorem Rd.blk {w w' : World} {B B' size n c : Nat} {A : Option Addr} {xs : List Value} (h : Rd w B size A n c xs) (hB : B ≤ B') (hk : 0 < n → ∀ ad : Addr, A = some ad → ad.block < B → w'.heap[ad.block]? = w.heap[ad.block]?) : Rd w' B' size A n c xs :=
  ⟨h.len, h.cap, h.small, fun hn => by
    obtain ⟨ad, e, hb, hc⟩ := h.cells hn
    exact ⟨ad, e, by omega, fun j u hu => (World.cell?_of_block (w := w) (by rw [add_block]; exact hk hn ad e hb)).trans (hc j u hu)⟩⟩
theorem InAt.grown {w w' : World} {G : Nat → Prop} {row : Option Nat} {xs : List Value} {k : Nat} {s : Step} (h : InAt w G xs k s) (hg : w.grownBy w' row) (hr : ∀ k, G k → some k ≠ row) : InAt w' G xs k s := by
  obtain ⟨A', n', c', h1, h2, h3, h4, h5⟩ := h
  exact ⟨A', n', c', h1, h2, h3, Rd.blk h4 hg.size fun hn ad e hb => hg.block ad.block hb (hr _ (h5 hn ad e)), h5⟩
theorem InAt.weak {w : World} {G G' : Nat → Prop} {xs : List Value} {k : Nat} {s : Step} (h : InAt w G xs k s) (hG : ∀ k, G k → G' k) : InAt w G' xs k s := by
  obtain ⟨A', n', c', h1, h2, h3, h4, h5⟩ := h
  exact ⟨A', n', c', h1, h2, h3, h4, fun hn ad e => hG _ (h5 hn ad e)⟩
theorem InAt.below {w w' : World} {G : Nat → Prop} {xs : List Value} {k : Nat} {s : Step} (h : InAt w G xs k s) (hb : Below w.heap.size w w') : InAt w' G xs k s := by
  obtain ⟨A', n', c', h1, h2, h3, h4, h5⟩ := h
  exact ⟨A', n', c', h1, h2, h3, Rd.more (Rd.below h4 hb) hb.size, h5⟩
theorem InAt.left {w : World} {G : Nat → Prop} {xs : List Value} (ys : List Value) {k : Nat} {s : Step} (h : InAt w G xs k s) : InAt w G (xs ++ ys) k s := by
  obtain ⟨A', n', c', h1, h2, h3, h4⟩ := h
  have key : ∀ j v, xs[j]? = some v → (xs ++ ys)[j]? = some v := fun j v hj => by rw [List.getElem?_append_left (List.getElem?_eq_some_iff.1 hj).1]; exact hj
  exact ⟨A', n', c', key _ _ h1, key _ _ h2, key _ _ h3, h4⟩
theorem InAt.right {w : World} {G : Nat → Prop} {xs : List Value} {ys : List Value} {k n : Nat} {s : Step} (hx : xs.length = n * 3) (h : InAt w G ys k s) : InAt w G (xs ++ ys) (n + k) s := by
  obtain ⟨A', n', c', h1, h2, h3, h4⟩ := h
  have key : ∀ j v, ys[j]? = some v → (xs ++ ys)[n * 3 + j]? = some v := fun j v hj => by rw [List.getElem?_append_right (by omega), hx, Nat.add_sub_cancel_left]; exact hj
  exact ⟨A', n', c', by have := key _ _ h1; rw [show 3 * (n + k) = n * 3 + 3 * k by omega]; exact this, by have := key _ _ h2; rw [show 3 * (n + k) + 1 = n * 3 + (3 * k + 1) by omega]; exact this, by have := key _ _ h3; rw [show 3 * (n + k) + 2 = n * 3 + (3 * k + 2) by omega]; exact this, h4⟩
theorem steps_one {w : World} {G : Nat → Prop} {xs : List Value} {m : Nat} {l : List Step} (hx : xs.length = m * 3) (hl : l.length = m) (h : ∀ k s, l[k]? = some s → InAt w G xs k s) : ∀ v ∈ xs, v.oneCell' = true := by
  intro v hv
  obtain ⟨j, hj, rfl⟩ := List.getElem_of_mem hv
  have hk : j / 3 < l.length := by omega
  obtain ⟨A', n', c', h1, h2, h3, _⟩ := h (j / 3) l[j / 3] (List.getElem?_eq_getElem hk)
  have hc : j = 3 * (j / 3) ∨ j = 3 * (j / 3) + 1 ∨ j = 3 * (j / 3) + 2 := by omega
  have key : ∀ i v, i = j → xs[i]? = some v → xs[j] = v := fun i v e hi => by subst e; rw [List.getElem?_eq_getElem hj] at hi; injection hi
  rcases hc with e | e | e
  · rw [key _ _ e.symm h1]; rfl
  · rw [key _ _ e.symm h2]; rfl
  · rw [key _ _ e.symm h3]; rfl

theorem infoStep : (Tryz.prog.info? 66).map (fun i => (i.zero, i.size, i.bytes)) = some (some (.agg #[.int .i64 0, .string ⟨#[]⟩, .slice none 0 0]), 3, 48) := by kernel_rfl

/-- 'append(v, x...)': v the program's own. -/
theorem wpList_append_steps {ops : Array Oper} {rest : List Oper} {o : Oper} {a : Act} {Q : Exit → Act → World → Prop} {w : World} (hgd : o.guard = none) (s x : Operand)
    (ho : o.op = .call { callee := .builtin .append, args := #[s, x], argTypes := #[22, 22] })
    (B : Nat) (G : Nat → Prop) (v : Value) (n : Nat) (l : List Step) (hs : a.eval s = v) (hown : OwnSteps w B G v n l) (A : Option Addr) (m c : Nat) (l' : List Step) (hx : a.eval x = .slice A m c) (hsrc : SrcSteps w G A m c l')
    (hn : n + m ≤ 1099511627776) (hB : B ≤ w.heap.size)
    (hK : ∀ v' w', OwnSteps w' B G v' (n + m) (l ++ l') → w.grownBy w' v.ownBlock → (v'.ownBlock = v.ownBlock ∨ v'.ownBlock = some w.heap.size) → wpList Tryz.prog ops Q rest (a.put o.dst v') w') : wpList Tryz.prog ops Q (o :: rest) a w := by
  obtain ⟨i0, hi, hz0, hz1, hz2⟩ := info_parts infoStep
  obtain ⟨xs, h1, h2, hG, h3⟩ := hown
  obtain ⟨ys, g1, g0, gc, g2, g3⟩ := hsrc
  cases A with
  | none =>
    obtain ⟨rfl, rfl⟩ := g0 rfl
    obtain rfl := List.eq_nil_of_length_eq_zero g2
    refine wpList_append_own_none hgd s x 22 ho B 66 i0 3 Tryz.underlying22 hi v n xs hs h1 hx ?_
    exact hK v w ⟨xs, h1, by simpa using h2, hG, fun k s hk => h3 k s (by simpa using hk)⟩ (World.grownBy.refl _ _) (Or.inl rfl)
  | some ad =>
    refine wpList_append_own_at w hgd s x 22 ho B 66 i0 (.agg #[.int .i64 0, .string ⟨#[]⟩, .slice none 0 0]) 3 48 Tryz.underlying22 hi hz0 hz1 hz2 rfl (by decide) v n xs hs h1 ad m c ys hx g1 (gc ad rfl) (steps_one g1 g2 g3) (by unfold maxLen; omega) (by omega) hB ?_
    intro v' w' hown' hgrow _ hloc
    have hG' : ∀ k, G k → k < w'.heap.size ∧ some k ≠ v'.ownBlock := by
      intro k hk
      have hk2 := hG k hk
      refine ⟨by have := hgrow.size; omega, ?_⟩
      rcases hloc with h | h
      · rw [h]; exact hk2.2
      · rw [h]; intro e; injection e with e; omega
    refine hK v' w' ⟨xs ++ ys, hown', by rw [List.length_append, h2, g2], hG', fun k s hk => ?_⟩ hgrow hloc
    rcases Nat.lt_or_ge k n with hkn | hkn
    · rw [List.getElem?_append_left (by omega)] at hk
      exact ((h3 k s hk).grown hgrow fun k hk => (hG k hk).2).left ys
    · rw [List.getElem?_append_right (by omega), h2] at hk
      have := ((g3 _ s hk).grown hgrow fun k hk => (hG k hk).2).right (xs := xs) (n := n) (by have := h1.1; omega)
      rw [show n + (k - n) = k by omega] at this
      exact this

/-- A slice that came in, as what is appended. -/
theorem StepsAt.src {w : World} {B n c : Nat} {A : Option Addr} {l : List Step} {G : Nat → Prop} (h : StepsAt w B A n c l) (hB : B ≤ w.heap.size) (h0 : A = none → n = 0 ∧ c = 0) (hu : ∀ k, k < B → G k) : SrcSteps w G A n c l := by
  obtain ⟨xs, h1, h2, h3⟩ := h
  refine ⟨xs, h1.len, h0, fun ad e j v hj => ?_, h2, fun k s hk => ?_⟩
  · have hn : 0 < n := by
      have := (List.getElem?_eq_some_iff.1 hj).1
      have := h1.len
      omega
    obtain ⟨ad', e', _, hc⟩ := h1.cells hn
    rw [e] at e'
    injection e' with e'
    subst e'
    exact hc j v hj
  · obtain ⟨A', n', c', a1, a2, a3, a4⟩ := h3 k s hk
    refine ⟨A', n', c', a1, a2, a3, Rd.more a4 hB, fun hn ad e => ?_⟩
    obtain ⟨ad', e', hb, _⟩ := a4.cells hn
    rw [e] at e'
    injection e' with e'
    subst e'
    exact hu _ hb
/-- A slice of the program's own, as one that is read, as what is appended. -/
theorem OwnSteps.at_ {w : World} {B n : Nat} {G : Nat → Prop} {v : Value} {l : List Step} (h : OwnSteps w B G v n l) : ∃ A c, v = .slice A n c ∧ StepsAt w w.heap.size A n c l ∧ SrcSteps w G A n c l := by
  obtain ⟨xs, h1, h2, _, h3⟩ := h
  have h3' : ∀ k s, l[k]? = some s → ∃ A' n' c', xs[3 * k]? = some (.int .i64 s.kind) ∧ xs[3 * k + 1]? = some (.string s.text) ∧ xs[3 * k + 2]? = some (.slice A' n' c') ∧ StrsAt w w.heap.size A' n' c' s.texts := by
    intro k s hk
    obtain ⟨A', n', c', a1, a2, a3, a4, _⟩ := h3 k s hk
    exact ⟨A', n', c', a1, a2, a3, a4⟩
  rcases h1.2 with ⟨rfl, rfl⟩ | ⟨g, cap, cur, rfl, _, hg, hnc, hcm, hcs, htake⟩
  · have := h1.1
    obtain rfl := List.eq_nil_of_length_eq_zero (l := xs) (by omega)
    exact ⟨none, 0, rfl, ⟨[], Rd.nil _ _ _, h2, h3'⟩, [], rfl, fun _ => ⟨rfl, rfl⟩, fun ad e => (by cases e), h2, h3⟩
  · have hcell : ∀ (j : Nat) (u : Value), xs[j]? = some u → w.cell? ((⟨g, 0, none⟩ : Addr).add j) = some u := by
      intro j u hj
      have hj2 := (List.getElem?_eq_some_iff.1 hj).1
      have hadd : (⟨g, 0, none⟩ : Addr).add j = ⟨g, j, none⟩ := by unfold Addr.add; split <;> simp_all
      rw [hadd, h1.cellAt j (by have := h1.1; omega)]
      exact hj
    refine ⟨some ⟨g, 0, none⟩, cap, rfl, ⟨xs, ⟨h1.1, hnc, by unfold maxLen at hcm; omega, fun _ => ⟨_, rfl, (Array.getElem?_eq_some_iff.1 hg).1, hcell⟩⟩, h2, h3'⟩, xs, h1.1, fun e => (by cases e), fun ad e => ?_, h2, h3⟩
    injection e with e
    subst e
    exact hcell
/-- .. survives what is below, what grows another block; its places may be more. -/
theorem OwnSteps.below {w w' : World} {B n : Nat} {G : Nat → Prop} {v : Value} {l : List Step} (h : OwnSteps w B G v n l) (hb : Below w.heap.size w w') : OwnSteps w' B G v n l := by
  obtain ⟨xs, h1, h2, hG, h3⟩ := h
  exact ⟨xs, own_below h1 hb (Nat.le_refl _), h2, fun k hk => ⟨by have := hb.size; have := (hG k hk).1; omega, (hG k hk).2⟩, fun k s hk => (h3 k s hk).below hb⟩
theorem OwnSteps.grown {w w' : World} {B n : Nat} {G : Nat → Prop} {v : Value} {l : List Step} {row : Option Nat} (h : OwnSteps w B G v n l) (hg : w.grownBy w' row) (hne : v.ownBlock = none ∨ v.ownBlock ≠ row) (hr : ∀ k, G k → some k ≠ row) : OwnSteps w' B G v n l := by
  obtain ⟨xs, h1, h2, hG, h3⟩ := h
  exact ⟨xs, h1.kept hg hne, h2, fun k hk => ⟨by have := hg.size; have := (hG k hk).1; omega, (hG k hk).2⟩, fun k s hk => (h3 k s hk).grown hg hr⟩
theorem OwnSteps.weak {w : World} {B n : Nat} {G G' : Nat → Prop} {v : Value} {l : List Step} (h : OwnSteps w B G v n l) (hG : ∀ k, G k → G' k) (hG' : ∀ k, G' k → k < w.heap.size ∧ some k ≠ v.ownBlock) : OwnSteps w B G' v n l := by
  obtain ⟨xs, h1, h2, _, h3⟩ := h
  exact ⟨xs, h1, h2, hG', fun k s hk => (h3 k s hk).weak hG⟩
theorem OwnSteps.apart {w : World} {B n : Nat} {G : Nat → Prop} {v : Value} {l : List Step} (h : OwnSteps w B G v n l) : ∀ k, G k → some k ≠ v.ownBlock := by
  obtain ⟨xs, _, _, hG, _⟩ := h
  exact fun k hk => (hG k hk).2
theorem OwnSteps.lt {w : World} {B n : Nat} {G : Nat → Prop} {v : Value} {l : List Step} (h : OwnSteps w B G v n l) {k : Nat} (hk : v.ownBlock = some k) : B ≤ k ∧ k < w.heap.size := by
  obtain ⟨xs, h1, _⟩ := h
  exact World.ownsRow.lt h1 k hk
/-- An empty literal. -/
theorem OwnSteps.fresh {w : World} {B : Nat} (hB : B ≤ w.heap.size) : OwnSteps (w.alloc (.cells #[] 66)) B (fun k => k < B) (.slice (some ⟨w.heap.size, 0, none⟩) 0 0) 0 [] := by
  refine ⟨[], ⟨rfl, Or.inr ⟨w.heap.size, 0, #[], rfl, hB, heap_alloc_new w _, Nat.le_refl _, Nat.zero_le _, rfl, rfl⟩⟩, rfl, fun k hk => ⟨by simp; omega, ?_⟩, fun k s hk => by simp at hk⟩
  show some k ≠ some w.heap.size
  intro e
  injection e with e
  omega
/-- A step without texts, laid by itself. -/
theorem src_one (w : World) (G : Nat → Prop) (kd : Int) (t : ByteArray) : SrcSteps (w.alloc (.cells #[.int .i64 kd, .string t, .slice none 0 0] 66)) G (some ⟨w.heap.size, 0, none⟩) 1 1 [⟨kd, t, []⟩] := by
  refine ⟨[.int .i64 kd, .string t, .slice none 0 0], rfl, fun e => (by cases e), fun ad e => ?_, rfl, fun k s hk => ?_⟩
  · injection e with e
    subst e
    exact World.news_of_block (cs := #[.int .i64 kd, .string t, .slice none 0 0]) (heap_alloc_new w _)
  · match k, hk with
    | 0, hk =>
      simp at hk
      subst hk
      exact ⟨none, 0, 0, rfl, rfl, rfl, Rd.nil _ _ _, fun h => absurd h (by omega)⟩
    | k + 1, hk => simp at hk
end Go.Proofs.YtdkpacgbniclhaaGreatDoor
