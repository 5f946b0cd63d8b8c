/- Plain words on memory: a slice of steps that came in, with the bound that its bulk gives.
   The given statement on FnListsMarkdownBack: the walk lifted to the row's words. The second form: where what is read is small. -/
import Derived.Test.YtccbjmmggolhnaaDoorRows
import Derived.Test.YtccbjmmggolhnaaDoorOpenSteps
import Derived.Test.YtccbjmmggolhnaaDoorPlayed
import Derived.WalkKit
import Derived.ProofKit
import Derived.OpenShut
import Derived.ShutString
import Derived.ChangeOld
import Derived.Below
import Derived.LaidMore
import Derived.Stop.Joined
import Derived.Test.YtccbjmmggolhnaaDoorDoorLaid
import Derived.Test.YtccbjmmggolhnaaDoorListsMarkdownBack
import Derived.Test.YtccbjmmggolhnaaDoorOpen
import Derived.Test.YtccbjmmggolhnaaDoorOpenStyle
import Derived.Deep.DeepHandedRow
import Derived.Deep.DeepWitnessRowRef
import Derived.Lib.LaidTab
import Derived.JoinedCond
namespace Go.Proofs.YtccbjmmggolhnaaDoor
open Go.RowKit Go.ChangeShapes Go.Deep
set_option linter.unusedVariables false

theorem bulk_one {H : Type} (d : DataW H) : 1 ≤ Rows.uptoBulk d := by
  cases d with
  | lit l => cases l <;> simp [Rows.uptoBulk]
  | nil => simp [Rows.uptoBulk]
  | ptr d => simp [Rows.uptoBulk]
  | slice elems spare => simp [Rows.uptoBulk]
  | agg parts => simp [Rows.uptoBulk]
  | iface t d => simp [Rows.uptoBulk]
  | map entries => simp [Rows.uptoBulk]
  | held h => simp [Rows.uptoBulk]
theorem bulk_len {H : Type} : ∀ l : List (DataW H), l.length ≤ Rows.uptoBulkAll l
  | [] => Nat.zero_le _
  | x :: r => by
    have := bulk_one x
    have := bulk_len r
    simp only [Rows.uptoBulkAll, List.length_cons]
    omega
theorem bulk_strs {H : Type} (ss : List ByteArray) (n : Nat) : (ss.take n).length ≤ Rows.uptoBulk (.slice (strs (ss.take n)) (strs (ss.drop n)) : DataW H) := by
  have h := bulk_len (H := H) (strs (ss.take n))
  have e : (strs (H := H) (ss.take n)).length = (ss.take n).length := by unfold strs; rw [List.length_map]
  simp only [Rows.uptoBulk]
  omega
theorem bulk_row {H : Type} {d a b c : DataW H} {n : Nat} (h : d = .agg [a, b, c]) (hn : n ≤ Rows.uptoBulk c) : n + 1 ≤ Rows.uptoBulk d := by
  rw [h]
  simp only [Rows.uptoBulk, Rows.uptoBulkAll]
  omega
theorem bulk_sum {H : Type} (f : Nat → Nat) (D : Nat → DataW H) : ∀ L : List Nat, (∀ i ∈ L, f i ≤ Rows.uptoBulk (D i)) → (L.map f).sum ≤ Rows.uptoBulkAll (L.map D)
  | [], _ => Nat.zero_le _
  | i :: r, h => by
    have h1 := h i (by simp)
    have h2 := bulk_sum f D r (fun j hj => h j (by simp [hj]))
    simp only [List.map_cons, List.sum_cons, Rows.uptoBulkAll]
    omega
theorem bulk_cost {H : Type} (len : Nat) (F : Nat → Step × (Option Addr × Nat × Nat)) (D : Nat → DataW H) (h : ∀ i, i < len → (F i).1.texts.length + 1 ≤ Rows.uptoBulk (D i)) (sp : List (DataW H)) :
    cost ((List.range len).map fun i => (F i).1) ≤ Rows.uptoBulk (.slice ((List.range len).map D) sp) := by
  have := bulk_sum (fun i => (F i).1.texts.length + 1) D (List.range len) (fun i hi => h i (List.mem_range.1 hi))
  unfold cost
  rw [List.map_map]
  simp only [Rows.uptoBulk]
  exact Nat.le_trans this (by omega)

set_option maxRecDepth 100000 in
theorem steps_bulk {H : Type} {enc : TypeId × Value → H} {w : World} {fuel : Nat} {cs : List Value} {x : DataW H × List MemPlace} (h : DataW.trod enc Tryd.prog w 0 (fun _ => true) true fuel 22 cs = some x) :
    ∃ A n c l, cs = [.slice A n c] ∧ StepsAt w w.heap.size A n c l ∧ (A = none → n = 0 ∧ c = 0) ∧ cost l ≤ Rows.uptoBulk x.1 := by
  rcases open_slice Tryd.underlying22 h with ⟨rfl, _⟩ | ⟨a, len, cap, m, fu, D, Pl, rfl, _, hl, hm, hmm, hxx, hi⟩
  · exact ⟨none, 0, 0, [], rfl, ⟨[], Rd.nil _ _ _, rfl, fun k s hs => by simp at hs⟩, fun _ => ⟨rfl, rfl⟩, Nat.zero_le _⟩
  simp only [if_true] at hmm
  rw [cellsStep] at hi
  have each : ∀ i, i < m → ∃ f : Step × (Option Addr × Nat × Nat), w.cell? (a.add (i * 3)) = some (.int .i64 f.1.kind) ∧ w.cell? (a.add (i * 3 + 1)) = some (.string f.1.text) ∧ w.cell? (a.add (i * 3 + 2)) = some (.slice f.2.1 f.2.2.1 f.2.2.2) ∧ StrsAt w w.heap.size f.2.1 f.2.2.1 f.2.2.2 f.1.texts ∧ f.1.texts.length + 1 ≤ Rows.uptoBulk (D i) := by
    intro i him
    obtain ⟨cs', hc, ht⟩ := hi i him
    obtain ⟨y0, y1, y2, n, hDi, hlen, h0, h1, h2⟩ := trod_struct3 Tryd.underlying27 ht
    rw [cellsStep] at hlen
    obtain ⟨_, _, hat⟩ := World.cells?_some hc
    match cs', hlen with
    | [c0, c1, c2], _ =>
      simp only [cellsInt, cellsString, cellsStrings] at h0 h1 h2
      obtain ⟨z, hz, _, _⟩ := DataW.trod_int Tryd.underlying3 h0
      obtain ⟨t, ht1, _, _⟩ := DataW.trod_string Tryd.underlying9 h1
      simp at hz ht1
      subst hz ht1
      have k0 := hat 0 (by omega)
      have k1 := hat 1 (by omega)
      have k2 := hat 2 (by omega)
      rw [add_add] at k0 k1 k2
      simp at k0 k1 k2
      rcases open_strings Tryd.underlying25 Tryd.underlying9 cellsString h2 with ⟨hcs, hy2⟩ | ⟨b, bl', bc, ss, hcs, _, hbl, hbm, hbz, hy2, hcell, _⟩
      · simp at hcs
        subst hcs
        exact ⟨(⟨z, t, []⟩, none, 0, 0), k0, k1, k2, Rd.nil _ _ _, bulk_row (congrArg Prod.fst hDi) (Nat.zero_le _)⟩
      · simp at hcs
        subst hcs
        exact ⟨(⟨z, t, ss.take bl'⟩, some b, bl', bc), k0, k1, k2, strs_in hbl hbm (by simpa using hbz) hcell, bulk_row (congrArg Prod.fst hDi) (by rw [hy2]; exact bulk_strs _ _)⟩
  haveI : Inhabited (Step × (Option Addr × Nat × Nat)) := ⟨(⟨0, ⟨#[]⟩, []⟩, none, 0, 0)⟩
  obtain ⟨F, hF⟩ := choose_lt each
  refine ⟨some a, len, cap, (List.range len).map fun i => (F i).1, rfl, ?_, (fun e => by cases e), (by rw [hxx]; exact bulk_cost len F D (fun i hi => (hF i (by omega)).2.2.2.2) _)⟩
  let V : Nat → Value := fun j => if j % 3 = 0 then .int .i64 (F (j / 3)).1.kind else if j % 3 = 1 then .string (F (j / 3)).1.text else .slice (F (j / 3)).2.1 (F (j / 3)).2.2.1 (F (j / 3)).2.2.2
  have hV : ∀ j, j < len * 3 → w.cell? (a.add j) = some (V j) := by
    intro j hj
    obtain ⟨h0, h1, h2, _⟩ := hF (j / 3) (by omega)
    show _ = some (if j % 3 = 0 then _ else if j % 3 = 1 then _ else _)
    by_cases r0 : j % 3 = 0
    · rw [if_pos r0, ← h0]; congr 2; omega
    · by_cases r1 : j % 3 = 1
      · rw [if_neg r0, if_pos r1, ← h1]; congr 2; omega
      · rw [if_neg r0, if_neg r1, ← h2]; congr 2; omega
  have hat : ∀ j, j < len * 3 → ((List.range (len * 3)).map V)[j]? = some (V j) := by
    intro j hj; rw [List.getElem?_map, List.getElem?_range hj]; rfl
  refine ⟨(List.range (len * 3)).map V, ⟨by simp, hl, by unfold maxLen at hm; omega, fun hp => ⟨a, rfl, ?_, fun j u hu => ?_⟩⟩, by simp, fun k s hs => ?_⟩
  · have := block_lt (hV 0 (by omega)); rw [add_block] at this; exact this
  · have hj : j < len * 3 := by
      have := (List.getElem?_eq_some_iff.1 hu).1
      simpa using this
    rw [hat j hj] at hu
    rw [hV j hj, hu]
  · have hk : k < len := by
      have := (List.getElem?_eq_some_iff.1 hs).1
      simpa using this
    rw [List.getElem?_map, List.getElem?_range hk] at hs
    simp at hs
    subst hs
    obtain ⟨_, _, _, h3, _⟩ := hF k (by omega)
    refine ⟨_, _, _, ?_, ?_, ?_, h3⟩
    · rw [hat _ (by omega)]
      show some (if 3 * k % 3 = 0 then _ else if 3 * k % 3 = 1 then _ else _) = _
      rw [if_pos (by omega), show 3 * k / 3 = k by omega]
    · rw [hat _ (by omega)]
      show some (if (3 * k + 1) % 3 = 0 then _ else if (3 * k + 1) % 3 = 1 then _ else _) = _
      rw [if_neg (by omega), if_pos (by omega), show (3 * k + 1) / 3 = k by omega]
    · rw [hat _ (by omega)]
      show some (if (3 * k + 2) % 3 = 0 then _ else if (3 * k + 2) % 3 = 1 then _ else _) = _
      rw [if_neg (by omega), if_neg (by omega), show (3 * k + 2) / 3 = k by omega]
end Go.Proofs.YtccbjmmggolhnaaDoor
namespace Go.Proofs.YtccbjmmggolhnaaDoor
open Go.ChangeShapes Go.WideShapes Go.ChangeAt Go.RowKit
open Go.ChangeMaps (open_string shut_string)
set_option linter.unusedVariables false
theorem own_FnListsMarkdownBack : ownKnob Tryd.prog.godebug = none := by kernel_rfl
theorem laidOut_FnListsMarkdownBack : laidOutB Tryd.prog = true := by kernel_rfl
theorem door_met_FnListsMarkdownBack (os : Os) (args : Array Value) : laidMetH Tryd.prog Rows.fnListsMarkdownBackUptoRow.laid ((tabsW os).forCall (fun _ _ => 0) ⟨#[], args, []⟩).memory := by
  rw [MakeChecks.laidMetH_plain _ _ _ (by kernel_rfl)]; exact tabs_laid os args
set_option maxRecDepth 100000 in
theorem reads_FnListsMarkdownBack (os : Os) {H : Type} (enc : TypeId × Value → H) : ∃ places, DataW.whole enc Tryd.prog ((tabsW os).forCall (fun _ _ => 0) ⟨#[], #[.slice none 0 0, .agg #[.int .i64 0, .string ⟨#[]⟩, .string ⟨#[]⟩, .string ⟨#[]⟩, .string ⟨#[]⟩, .string ⟨#[]⟩, .string ⟨#[]⟩, .string ⟨#[]⟩, .string ⟨#[]⟩]], []⟩).memory Tryd.f6.params.toList Rows.fnListsMarkdownBackSpec.vars false (#[.slice none 0 0, .agg #[.int .i64 0, .string ⟨#[]⟩, .string ⟨#[]⟩, .string ⟨#[]⟩, .string ⟨#[]⟩, .string ⟨#[]⟩, .string ⟨#[]⟩, .string ⟨#[]⟩, .string ⟨#[]⟩]] : Array Value).toList 8 = some ([.nil, .agg [.lit (.int .i64 0), .lit (.string []), .lit (.string []), .lit (.string []), .lit (.string []), .lit (.string []), .lit (.string []), .lit (.string []), .lit (.string [])]], [], places) :=
  ⟨[], by kernel_rfl⟩
set_option maxRecDepth 100000 in
set_option maxHeartbeats 4000000 in
theorem lifted_FnListsMarkdownBackUpto (os : Os) (started : os.Started) (H : Type) (enc : TypeId × Value → H) (F : Stop.Interp) :
    ReturnsInHanded {} Tryd.checked os 6 .any ((Rows.OpenSpec.upto Rows.fnListsMarkdownBackSpec).preRow enc Tryd.prog Tryd.f6 Rows.fnListsMarkdownBackUptoRow.domain false Rows.fnListsMarkdownBackUptoRow.laid) (((Rows.OpenSpec.upto Rows.fnListsMarkdownBackSpec).at F).post enc Tryd.prog Tryd.f6 false true false false) := by
  obtain ⟨places, hx⟩ := reads_FnListsMarkdownBack os enc
  refine returnsInHanded_of_row (C := Tryd.checked) (s := Rows.OpenSpec.upto Rows.fnListsMarkdownBackSpec) own_FnListsMarkdownBack started (by kernel_rfl) Tryd.func6
    (witness_row_atRef (enc := enc) (C := Tryd.checked) false (tabsW os) #[.slice none 0 0, .agg #[.int .i64 0, .string ⟨#[]⟩, .string ⟨#[]⟩, .string ⟨#[]⟩, .string ⟨#[]⟩, .string ⟨#[]⟩, .string ⟨#[]⟩, .string ⟨#[]⟩, .string ⟨#[]⟩]] (tabsW_os os) (by kernel_rfl) (by kernel_rfl) (by kernel_rfl)
      (OpenSpec.preRow_of_cond 8 hx (by kernel_rfl) (fun k hk => by cases hk; kernel_rfl) (by kernel_rfl) (door_met_FnListsMarkdownBack os _))) ?_
  intro W base args ds gs before hval0 hW _ hcond _ hL _ _
  have hk := of_decide_eq_true (hcond _ rfl)
  have hval : ∀ (j : Nat) t v, Tryd.f6.params[j]? = some t → args[j]? = some v → Value.okWide Tryd.prog W .any base t v := hval0
  have hW' := hW
  obtain ⟨p, q, hA0, hV, rfl, hfz, hnd⟩ := hW
  have hA : DataW.TrodAll enc Tryd.prog W 0 (fun _ => true) true Tryd.f6.params.toList args.toList ds p := hA0
  rw [Tryd.params6] at hA hval
  obtain ⟨v0, vs0, d0, ds0, p0, q0, hargs, rfl, rfl, h0, r0⟩ := trodAll_cons hA
  obtain ⟨v1, vs1, d1, ds1, p1, q1, rfl, rfl, rfl, h1, r1⟩ := trodAll_cons r0
  obtain ⟨rfl, rfl, rfl⟩ := trodAll_nil r1
  obtain rfl : args = #[v0, v1] := by cases args; simp_all
  obtain ⟨rfl, rfl⟩ := trodVars_none hV
  obtain ⟨a0, len0, cap0, rfl⟩ := okWide_slice Tryd.underlying22 (hval 0 22 v0 rfl rfl)
  have k0 := h0
  have lt0 : ∀ x ∈ p0, x.block < W.heap.size := by obtain ⟨m, hm⟩ := k0; exact DataW.trod_lt m _ _ _ hm
  obtain ⟨z0, w0, n0⟩ : ∃ l, StepsAt W W.heap.size a0 len0 cap0 l ∧ cost l ≤ 1099511627776 := by
    obtain ⟨fuel, hf⟩ := h0
    obtain ⟨A1, n1, c1, l, hcs, hst, _, hz⟩ := steps_bulk hf
    dsimp only at hz
    simp only [List.cons_append, Rows.uptoBulkAll] at hk
    simp [Value.cells] at hcs
    obtain ⟨rfl, rfl, rfl⟩ := hcs
    exact ⟨l, hst, by omega⟩
  have k1 := h1
  have lt1 : ∀ x ∈ p1, x.block < W.heap.size := by obtain ⟨m, hm⟩ := k1; exact DataW.trod_lt m _ _ _ hm
  obtain ⟨a1, rfl, nm1⟩ := style_in (hval 1 35 v1 rfl rfl) h1
  clear hA0 hval0
  refine (listsMarkdownBack_any a0 len0 cap0 z0 a1 W w0 nm1 n0).mono fun e W' ⟨he, bel⟩ => ?_
  subst he
  exact ⟨_, rfl, _, _, _, [], _, [], hW', trodAll_mk1 (shut_bool Tryd.underlying4 _), (trodAll_cons_mk (Below.trod laidOut_FnListsMarkdownBack (by kernel_rfl) (of_decide_eq_true (by kernel_rfl)) k0 bel lt0) (trodAll_cons_mk (Below.trod laidOut_FnListsMarkdownBack (by kernel_rfl) (of_decide_eq_true (by kernel_rfl)) k1 bel lt1) trodAll_mk0)), rfl, bel.frame _, fun h => by cases h⟩

end Go.Proofs.YtccbjmmggolhnaaDoor
