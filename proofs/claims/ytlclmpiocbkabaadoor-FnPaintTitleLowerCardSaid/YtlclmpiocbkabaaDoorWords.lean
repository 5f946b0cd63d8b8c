/- Plain words on memory: what a slice reads as. -/
import Derived.Below
import Derived.Laws.OwnMore
import Derived.Deep.AppendLies
import Derived.Deep.Draws
import Derived.Maps.AppendAt
import Derived.OwnWalk
namespace Go.Proofs.YtlclmpiocbkabaaDoor
open Go.RowKit

/-- '.slice A n c' reads as the cells xs (size cells an element); all of it lies below block B. -/
structure Rd (w : World) (B size : Nat) (A : Option Addr) (n c : Nat) (xs : List Value) : Prop where
  len : xs.length = n * size
  cap : n ≤ c
  small : c ≤ 9223372036854775807
  cells : 0 < n → ∃ ad : Addr, A = some ad ∧ ad.block < B ∧ ∀ j u, xs[j]? = some u → w.cell? (ad.add j) = some u

theorem add_block (a : Addr) (n : Nat) : (a.add n).block = a.block := by unfold Addr.add; split <;> rfl

section
variable {w w' : World} {B B' size n c : Nat} {A : Option Addr} {xs : List Value}

theorem Rd.nil (w : World) (B size : Nat) : Rd w B size none 0 0 [] := ⟨by simp, Nat.le_refl _, by omega, fun h => absurd h (by omega)⟩
theorem Rd.keep (h : Rd w B size A n c xs) (hk : ∀ p : Addr, p.block < B → w'.cell? p = w.cell? p) : Rd w' B size A n c xs :=
  ⟨h.len, h.cap, h.small, fun hn => by
    obtain ⟨ad, e, hb, hc⟩ := h.cells hn
    exact ⟨ad, e, hb, fun j u hu => (hk _ (by rw [add_block]; exact hb)).trans (hc j u hu)⟩⟩
theorem Rd.below (h : Rd w B size A n c xs) (hb : Below B w w') : Rd w' B size A n c xs := h.keep fun _ hp => hb.cell hp
theorem Rd.more (h : Rd w B size A n c xs) (hB : B ≤ B') : Rd w B' size A n c xs :=
  ⟨h.len, h.cap, h.small, fun hn => by
    obtain ⟨ad, e, hb, hc⟩ := h.cells hn
    exact ⟨ad, e, by omega, hc⟩⟩
theorem Rd.drew (h : Rd w B size A n c xs) : Rd w.drew B size A n c xs := ⟨h.len, h.cap, h.small, h.cells⟩
theorem Rd.alloc (h : Rd w B size A n c xs) (hB : B ≤ w.heap.size) (o : Obj) : Rd (w.alloc o) B size A n c xs := h.keep fun p hp => World.cell?_alloc_lt w o p (by omega)

/-- Element k of a slice of one-cell elements. -/
theorem Rd.at1 {k : Nat} (h : Rd w B 1 A n c xs) (hk : k < n) : ∃ ad u, A = some ad ∧ ad.block < B ∧ xs[k]? = some u ∧ w.cell? (ad.add k) = some u := by
  obtain ⟨ad, e, hb, hc⟩ := h.cells (by omega)
  have hl : k < xs.length := by have := h.len; omega
  exact ⟨ad, xs[k], e, hb, List.getElem?_eq_getElem hl, hc k _ (List.getElem?_eq_getElem hl)⟩
end

/-- A slice of ints, of strings. -/
def IntsAt (w : World) (B : Nat) (A : Option Addr) (n c : Nat) (l : List Int) : Prop := Rd w B 1 A n c (l.map (Value.int .i64))
def StrsAt (w : World) (B : Nat) (A : Option Addr) (n c : Nat) (l : List ByteArray) : Prop := Rd w B 1 A n c (l.map Value.string)

section
variable {w w' : World} {B B' n c : Nat} {A : Option Addr} {l : List Int} {ss : List ByteArray}
theorem IntsAt.len (h : IntsAt w B A n c l) : l.length = n := by have := Rd.len h; simpa using this
theorem IntsAt.below (h : IntsAt w B A n c l) (hb : Below B w w') : IntsAt w' B A n c l := Rd.below h hb
theorem IntsAt.more (h : IntsAt w B A n c l) (hB : B ≤ B') : IntsAt w B' A n c l := Rd.more h hB
theorem IntsAt.at_ {k : Nat} (h : IntsAt w B A n c l) (hk : k < n) : ∃ ad x, A = some ad ∧ ad.block < B ∧ l[k]? = some x ∧ w.cell? (ad.add k) = some (.int .i64 x) := by
  obtain ⟨ad, u, e, hb, hu, hc⟩ := Rd.at1 h hk
  rw [List.getElem?_map] at hu
  cases hx : l[k]? with
  | none => rw [hx] at hu; cases hu
  | some x => rw [hx] at hu; simp at hu; exact ⟨ad, x, e, hb, rfl, by rw [hc, ← hu]⟩
theorem StrsAt.len (h : StrsAt w B A n c ss) : ss.length = n := by have := Rd.len h; simpa using this
theorem StrsAt.below (h : StrsAt w B A n c ss) (hb : Below B w w') : StrsAt w' B A n c ss := Rd.below h hb
theorem StrsAt.more (h : StrsAt w B A n c ss) (hB : B ≤ B') : StrsAt w B' A n c ss := Rd.more h hB
theorem StrsAt.at_ {k : Nat} (h : StrsAt w B A n c ss) (hk : k < n) : ∃ ad x, A = some ad ∧ ad.block < B ∧ ss[k]? = some x ∧ w.cell? (ad.add k) = some (.string x) := by
  obtain ⟨ad, u, e, hb, hu, hc⟩ := Rd.at1 h hk
  rw [List.getElem?_map] at hu
  cases hx : ss[k]? with
  | none => rw [hx] at hu; cases hu
  | some x => rw [hx] at hu; simp at hu; exact ⟨ad, x, e, hb, rfl, by rw [hc, ← hu]⟩
end

section
variable {w w' : World} {base e size n : Nat} {v : Value} {xs : List Value}
/-- What the call owns stays owned where the blocks from 'base' on stand. -/
theorem own_keep (h : w.ownsRow base e size v n xs) (hk : ∀ k, base ≤ k → w'.heap[k]? = w.heap[k]?) : w'.ownsRow base e size v n xs := by
  obtain ⟨h1, h2⟩ := h
  refine ⟨h1, ?_⟩
  rcases h2 with h2 | ⟨g, cap, cur, hv, hg, hh, r⟩
  · exact Or.inl h2
  · exact Or.inr ⟨g, cap, cur, hv, hg, by rw [hk g hg]; exact hh, r⟩
theorem own_base {base' : Nat} (h : w.ownsRow base e size v n xs) (hb : base' ≤ base) : w.ownsRow base' e size v n xs := by
  obtain ⟨h1, h2⟩ := h
  refine ⟨h1, ?_⟩
  rcases h2 with h2 | ⟨g, cap, cur, hv, hg, r⟩
  · exact Or.inl h2
  · exact Or.inr ⟨g, cap, cur, hv, by omega, r⟩
/-- .. and behind a call that turns nothing below B, where it lies there. -/
theorem own_below {B : Nat} (h : w.ownsRow base e size v n xs) (hb : Below B w w') (hB : w.heap.size ≤ B) : w'.ownsRow base e size v n xs := by
  obtain ⟨h1, h2⟩ := h
  refine ⟨h1, ?_⟩
  rcases h2 with h2 | ⟨g, cap, cur, hv, hg, hh, r⟩
  · exact Or.inl h2
  · have hlt : g < w.heap.size := (Array.getElem?_eq_some_iff.1 hh).1
    exact Or.inr ⟨g, cap, cur, hv, hg, by rw [hb.block g (by omega)]; exact hh, r⟩
/-- What is owned can be read. -/
theorem own_rd (h : w.ownsRow base e size v n xs) : ∃ A c, v = .slice A n c ∧ Rd w w.heap.size size A n c xs := by
  obtain ⟨h1, h2⟩ := h
  rcases h2 with ⟨rfl, rfl⟩ | ⟨g, cap, cur, rfl, hg, hh, hn, hm, hs, ht⟩
  · exact ⟨none, 0, rfl, h1, Nat.le_refl _, by omega, fun h => absurd h (by omega)⟩
  · have hlt : g < w.heap.size := (Array.getElem?_eq_some_iff.1 hh).1
    exact ⟨_, cap, rfl, h1, hn, hm, fun _ => ⟨_, rfl, hlt, World.ownsRow.cells (base := base) (e := e) (size := size) (n := n) (v := .slice (some ⟨g, 0, none⟩) n cap) ⟨h1, Or.inr ⟨g, cap, cur, rfl, hg, hh, hn, hm, hs, ht⟩⟩ rfl⟩⟩
/-- Two rows of other element types are two blocks. -/
theorem own_ne {base' e' size' n' : Nat} {v' : Value} {xs' : List Value} (h : w.ownsRow base e size v n xs) (h' : w.ownsRow base' e' size' v' n' xs') (hne : e ≠ e') : v.ownBlock = none ∨ v.ownBlock ≠ v'.ownBlock := by
  rcases h.2 with ⟨rfl, _⟩ | ⟨g, cap, cur, rfl, _, hh, _⟩
  · exact Or.inl rfl
  · rcases h'.2 with ⟨rfl, _⟩ | ⟨g', cap', cur', rfl, _, hh', _⟩
    · exact Or.inr (by simp [Value.ownBlock])
    · refine Or.inr ?_
      simp only [Value.ownBlock]
      intro hg
      injection hg with hg
      subst hg
      rw [hh] at hh'
      injection hh' with hh'
      injection hh' with _ ht
      exact hne ht
end

/-- Two cells of a new block. -/
theorem cell_two (w : World) (x y : Value) (t : TypeId) : ∀ j u, [x, y][j]? = some u → (w.alloc (.cells #[x, y] t)).cell? ((⟨w.heap.size, 0, none⟩ : Addr).add j) = some u :=
  World.news_of_block (cs := #[x, y]) (heap_alloc_new w _)

/-- 'append(s, xs...)' onto a row of the call's own; xs reads (nil, empty or not). -/
theorem run_append_rd {P : Program} (w : World) (base : Nat) (t ty e : TypeId) (i : TypeInfo) (z : Value) (size bytes : Nat) (ht : P.underlying t = some (.slice e)) (hi : P.info? e = some i) (hz : i.zero = some z)
    (hsize : i.size = size) (hby : i.bytes = bytes) (hzs : z.cells.size = size) (hsz : 0 < size) (v : Value) (n : Nat) (xs : List Value) (hown : w.ownsRow base e size v n xs)
    (B : Nat) (A : Option Addr) (m c : Nat) (news : List Value) (hr : Rd w B size A m c news) (h1 : ∀ u ∈ news, u.oneCell' = true)
    (h63 : n + m ≤ maxLen) (hbytes : (n + m) * bytes ≤ 140737488355328) (hbase : base ≤ w.heap.size) :
    ∃ v' w', (Builtin.append_ #[t, t] ty #[v, .slice A m c]).run P w = .ok v' w' ∧ w'.ownsRow base e size v' (n + m) (xs ++ news) ∧ w.grownBy w' v.ownBlock ∧ (v'.ownBlock = v.ownBlock ∨ v'.ownBlock = some w.heap.size) := by
  cases A with
  | none =>
    obtain rfl : m = 0 := by
      rcases Nat.eq_zero_or_pos m with h0 | h0
      · exact h0
      · obtain ⟨_, h, _⟩ := hr.cells h0; cases h
    obtain rfl : news = [] := List.eq_nil_of_length_eq_zero (by simpa using hr.len)
    refine ⟨v, w, ?_, by simpa using hown, World.grownBy.refl w _, .inl rfl⟩
    rcases hown.2 with ⟨rfl, rfl⟩ | ⟨g, cap, cur, rfl, _, _, hnc, _⟩
    · simp [Builtin.append_, run_underlying ht, sizeOf, typeInfo, hi, Builtin.lenOf, Builtin.firstCells]
    · simp [Builtin.append_, run_underlying ht, sizeOf, typeInfo, hi, Builtin.lenOf, Builtin.firstCells, hnc, storeCells]
  | some ad =>
    have hcells : ∀ j u, news[j]? = some u → w.cell? (ad.add j) = some u := by
      intro j u hu
      rcases Nat.eq_zero_or_pos m with h0 | h0
      · subst h0
        obtain rfl : news = [] := List.eq_nil_of_length_eq_zero (by simpa using hr.len)
        simp at hu
      · obtain ⟨ad', h, _, hc⟩ := hr.cells h0
        injection h with h
        subst h
        exact hc j u hu
    obtain ⟨v', w', hrun, h2, h3, _, h5⟩ := run_append_own_at (P := P) w base t ty e i z size bytes ht hi hz hsize hby hzs hsz v n xs hown ad m c news hr.len hcells h1 h63 hbytes hbase
    exact ⟨v', w', hrun, h2, h3, h5⟩

theorem wpList_append_rd {P : Program} {w : World} {ops : Array Oper} {rest : List Oper} {o : Oper} {a : Act} {Q : Exit → Act → World → Prop} (hgd : o.guard = none) (s x : Operand) (t : TypeId)
    (ho : o.op = .call { callee := .builtin .append, args := #[s, x], argTypes := #[t, t] })
    (base : Nat) (e : TypeId) (i : TypeInfo) (z : Value) (size bytes : Nat) (ht : P.underlying t = some (.slice e)) (hi : P.info? e = some i) (hz : i.zero = some z)
    (hsize : i.size = size) (hby : i.bytes = bytes) (hzs : z.cells.size = size) (hsz : 0 < size)
    (v : Value) (n : Nat) (xs : List Value) (hs : a.eval s = v) (hown : w.ownsRow base e size v n xs)
    (B : Nat) (A : Option Addr) (m c : Nat) (news : List Value) (hx : a.eval x = .slice A m c) (hr : Rd w B size A m c news) (h1 : ∀ u ∈ news, u.oneCell' = true)
    (h63 : n + m ≤ maxLen) (hbytes : (n + m) * bytes ≤ 140737488355328) (hbase : base ≤ w.heap.size)
    (h : ∀ v' w', w'.ownsRow base e size v' (n + m) (xs ++ news) → w.grownBy w' v.ownBlock → (v'.ownBlock = v.ownBlock ∨ v'.ownBlock = some w.heap.size) → wpList P ops Q rest (a.put o.dst v') w') :
    wpList P ops Q (o :: rest) a w := by
  refine wpList_plain hgd fun K hK => ?_
  obtain ⟨v', w', hrun, h2, h3, h5⟩ := run_append_rd (P := P) w base t o.type e i z size bytes ht hi hz hsize hby hzs hsz v n xs hown B A m c news hr h1 h63 hbytes hbase
  unfold Oper.wp execOp
  simp only [ho, resolve, invoke, builtin, Sem.run_bind, Sem.run_pure, Result.andThen_ok, List.map_toArray, List.map_cons, List.map_nil, hs, hx, hrun]
  exact hK _ _ (h v' w' h2 h3 h5)

theorem ints_one (l : List Int) : ∀ u ∈ l.map (Value.int .i64), u.oneCell' = true := by
  intro u hu
  obtain ⟨x, _, rfl⟩ := List.mem_map.1 hu
  rfl

theorem drop_step {α : Type} {l : List α} {k : Nat} {x : α} (h : l[k]? = some x) : l.drop k = x :: l.drop (k + 1) := by
  obtain ⟨hlt, hx⟩ := List.getElem?_eq_some_iff.1 h
  rw [List.drop_eq_getElem_cons hlt, hx]
theorem take_step {α : Type} {l : List α} {k : Nat} {x : α} (h : l[k]? = some x) : l.take (k + 1) = l.take k ++ [x] := by
  obtain ⟨hlt, hx⟩ := List.getElem?_eq_some_iff.1 h
  rw [List.take_succ_eq_append_getElem hlt, hx]

/-- Cells of painted characters: what is on at each is a slice that reads. -/
def CellsAt (w : World) (B : Nat) (A : Option Addr) (n c : Nat) (l : List (Int × List Int)) : Prop :=
  ∃ xs, Rd w B 2 A n c xs ∧ l.length = n ∧ ∀ k r cs, l[k]? = some (r, cs) → ∃ A' n' c', xs[2 * k]? = some (.int .i32 r) ∧ xs[2 * k + 1]? = some (.slice A' n' c') ∧ IntsAt w B A' n' c' cs
theorem CellsAt.below {w w' : World} {B n c : Nat} {A : Option Addr} {l : List (Int × List Int)} (h : CellsAt w B A n c l) (hb : Below B w w') : CellsAt w' B A n c l := by
  obtain ⟨xs, h1, h2, h3⟩ := h
  refine ⟨xs, h1.below hb, h2, fun k r cs hk => ?_⟩
  obtain ⟨A', n', c', a, b, d⟩ := h3 k r cs hk
  exact ⟨A', n', c', a, b, d.below hb⟩
theorem CellsAt.more {w : World} {B B' n c : Nat} {A : Option Addr} {l : List (Int × List Int)} (h : CellsAt w B A n c l) (hB : B ≤ B') : CellsAt w B' A n c l := by
  obtain ⟨xs, h1, h2, h3⟩ := h
  refine ⟨xs, h1.more hB, h2, fun k r cs hk => ?_⟩
  obtain ⟨A', n', c', a, b, d⟩ := h3 k r cs hk
  exact ⟨A', n', c', a, b, d.more hB⟩
theorem CellsAt.small {w : World} {B n c : Nat} {A : Option Addr} {l : List (Int × List Int)} (h : CellsAt w B A n c l) : n ≤ 9223372036854775807 := by
  obtain ⟨xs, h1, _⟩ := h
  have := h1.cap; have := h1.small; omega
theorem CellsAt.len {w : World} {B n c : Nat} {A : Option Addr} {l : List (Int × List Int)} (h : CellsAt w B A n c l) : l.length = n := by
  obtain ⟨xs, _, h2, _⟩ := h
  exact h2
theorem add_step (a : Addr) (j m : Nat) : a.add (j + (m + 1)) = ⟨(a.add j).block, (a.add j).off + (m + 1), none⟩ := by
  unfold Addr.add
  by_cases h : j = 0
  · subst h; simp
  · rw [if_neg (by omega), if_neg h]
    simp only [Addr.mk.injEq, true_and, and_true]
    omega
theorem CellsAt.at_ {w : World} {B n c k : Nat} {A : Option Addr} {l : List (Int × List Int)} (h : CellsAt w B A n c l) (hk : k < n) :
    ∃ ad r cs A' n' c', A = some ad ∧ ad.block < B ∧ l[k]? = some (r, cs) ∧ w.cell? (ad.add (k * 2)) = some (.int .i32 r) ∧ w.cell? ⟨(ad.add (k * 2)).block, (ad.add (k * 2)).off + 1, none⟩ = some (.slice A' n' c') ∧ IntsAt w B A' n' c' cs := by
  obtain ⟨xs, h1, h2, h3⟩ := h
  obtain ⟨ad, e, hb, hc⟩ := h1.cells (by omega)
  obtain ⟨A', n', c', a, b, d⟩ := h3 k l[k].1 l[k].2 (List.getElem?_eq_getElem (by omega))
  exact ⟨ad, l[k].1, l[k].2, A', n', c', e, hb, List.getElem?_eq_getElem (by omega), by rw [Nat.mul_comm k 2]; exact hc _ _ a, by rw [← add_step, Nat.mul_comm k 2]; exact hc _ _ b, d⟩

/-- A row of ints of the program's own make. -/
def OwnInts (w : World) (T : TypeId) (v : Value) (l : List Int) : Prop := w.ownsRow 0 T 1 v l.length (l.map (Value.int .i64))
theorem OwnInts.rd {w : World} {T : TypeId} {v : Value} {l : List Int} (h : OwnInts w T v l) : ∃ A c, v = .slice A l.length c ∧ IntsAt w w.heap.size A l.length c l := own_rd h
theorem OwnInts.nil (w : World) (T : TypeId) : OwnInts w T (.slice none 0 0) [] := World.ownsRow_nil _ _ _ _
theorem OwnInts.below {w w' : World} {T : TypeId} {v : Value} {l : List Int} {B : Nat} (h : OwnInts w T v l) (hb : Below B w w') (hB : w.heap.size ≤ B) : OwnInts w' T v l := own_below h hb hB

/-- Painted characters in a row of the program's own make; what is on at each is such a row, too. -/
def OutRel (w : World) (base TC TI : TypeId) (v : Value) (l : List (Int × List Int)) : Prop :=
  ∃ xs, w.ownsRow base TC 2 v l.length xs ∧ ∀ k r cs, l[k]? = some (r, cs) → ∃ u, xs[2 * k]? = some (.int .i32 r) ∧ xs[2 * k + 1]? = some u ∧ OwnInts w TI u cs
theorem OutRel.nil (w : World) (base TC TI : TypeId) : OutRel w base TC TI (.slice none 0 0) [] := ⟨[], World.ownsRow_nil _ _ _ _, fun k r cs h => by simp at h⟩
theorem OutRel.below {w w' : World} {base TC TI B : Nat} {v : Value} {l : List (Int × List Int)} (h : OutRel w base TC TI v l) (hb : Below B w w') (hB : w.heap.size ≤ B) : OutRel w' base TC TI v l := by
  obtain ⟨xs, h1, h2⟩ := h
  refine ⟨xs, own_below h1 hb hB, fun k r cs hk => ?_⟩
  obtain ⟨u, a, b, c⟩ := h2 k r cs hk
  exact ⟨u, a, b, c.below hb hB⟩
theorem OutRel.rd {w : World} {base TC TI : Nat} {v : Value} {l : List (Int × List Int)} (h : OutRel w base TC TI v l) : ∃ A c, v = .slice A l.length c ∧ CellsAt w w.heap.size A l.length c l := by
  obtain ⟨xs, h1, h2⟩ := h
  obtain ⟨A, c, hv, hr⟩ := own_rd h1
  refine ⟨A, c, hv, xs, hr, rfl, fun k r cs hk => ?_⟩
  obtain ⟨u, a, b, d⟩ := h2 k r cs hk
  obtain ⟨A', c', rfl, hi⟩ := d.rd
  exact ⟨A', _, c', a, b, hi⟩
theorem OutRel.snoc {w w' : World} {base TC TI : Nat} {v v' : Value} {l : List (Int × List Int)} {xs : List Value} {r : Int} {u : Value} {on : List Int} {o : Obj} (hne : TI ≠ TC)
    (h1 : w.ownsRow base TC 2 v l.length xs) (h2 : ∀ k r cs, l[k]? = some (r, cs) → ∃ u, xs[2 * k]? = some (.int .i32 r) ∧ xs[2 * k + 1]? = some u ∧ OwnInts w TI u cs)
    (hon : OwnInts w TI u on) (hown : w'.ownsRow base TC 2 v' (l.length + 1) (xs ++ [.int .i32 r, u])) (hg : (w.alloc o).grownBy w' v.ownBlock) : OutRel w' base TC TI v' (l ++ [(r, on)]) ∧ OwnInts w' TI u on := by
  have keep : ∀ x cs, OwnInts w TI x cs → OwnInts w' TI x cs := fun x cs hx => (World.ownsRow.alloc hx o).kept hg (own_ne (hx.alloc o) (h1.alloc o) hne)
  refine ⟨⟨xs ++ [.int .i32 r, u], by rw [List.length_append]; exact hown, fun k r' cs hk => ?_⟩, keep _ _ hon⟩
  have hl := h1.1
  by_cases hlt : k < l.length
  · rw [List.getElem?_append_left hlt] at hk
    obtain ⟨x, a, b, c⟩ := h2 k r' cs hk
    exact ⟨x, by rw [List.getElem?_append_left (by omega)]; exact a, by rw [List.getElem?_append_left (by omega)]; exact b, keep _ _ c⟩
  · have hk' : k = l.length := by
      have := (List.getElem?_eq_some_iff.1 hk).1
      simp at this; omega
    subst hk'
    simp at hk
    obtain ⟨rfl, rfl⟩ := hk
    exact ⟨u, by rw [List.getElem?_append_right (by omega), hl, Nat.mul_comm, Nat.sub_self]; rfl, by rw [List.getElem?_append_right (by omega), hl, Nat.mul_comm 2, Nat.add_sub_cancel_left]; rfl, keep _ _ hon⟩
theorem OwnInts.drewN {w : World} {T : TypeId} {v : Value} {l : List Int} (h : OwnInts w T v l) (n : Nat) : OwnInts (w.drewN n) T v l := h
theorem OutRel.drewN {w : World} {base TC TI : Nat} {v : Value} {l : List (Int × List Int)} (h : OutRel w base TC TI v l) (n : Nat) : OutRel (w.drewN n) base TC TI v l := h
def RunesAt (w : World) (B : Nat) (A : Option Addr) (n c : Nat) (l : List Int) : Prop := Rd w B 1 A n c (l.map (Value.int .i32))
theorem RunesAt.len {w : World} {B n c : Nat} {A : Option Addr} {l : List Int} (h : RunesAt w B A n c l) : l.length = n := by have := Rd.len h; simpa using this
theorem RunesAt.below {w w' : World} {B n c : Nat} {A : Option Addr} {l : List Int} (h : RunesAt w B A n c l) (hb : Below B w w') : RunesAt w' B A n c l := Rd.below h hb
theorem RunesAt.at_ {w : World} {B n c k : Nat} {A : Option Addr} {l : List Int} (h : RunesAt w B A n c l) (hk : k < n) : ∃ ad x, A = some ad ∧ ad.block < B ∧ l[k]? = some x ∧ w.cell? (ad.add k) = some (.int .i32 x) := by
  obtain ⟨ad, u, e, hb, hu, hc⟩ := Rd.at1 h hk
  rw [List.getElem?_map] at hu
  cases hx : l[k]? with
  | none => rw [hx] at hu; cases hu
  | some x => rw [hx] at hu; simp at hu; exact ⟨ad, x, e, hb, rfl, by rw [hc, ← hu]⟩
end Go.Proofs.YtlclmpiocbkabaaDoor
