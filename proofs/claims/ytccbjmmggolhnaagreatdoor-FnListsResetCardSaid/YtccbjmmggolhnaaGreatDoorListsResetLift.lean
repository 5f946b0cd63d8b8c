/- The given statement on FnListsReset: the walk lifted to the row's words. For every input, no condition. -/
import Derived.Test.YtccbjmmggolhnaaGreatDoorRows
import Derived.WalkKit
import Derived.ProofKit
import Derived.OpenShut
import Derived.ShutString
import Derived.ChangeOld
import Derived.Below
import Derived.LaidMore
import Derived.Stop.Joined
import Derived.Test.YtccbjmmggolhnaaGreatDoorDoorLaid
import Derived.Test.YtccbjmmggolhnaaGreatDoorListsReset
import Derived.Test.YtccbjmmggolhnaaGreatDoorOpen
import Derived.Test.YtccbjmmggolhnaaGreatDoorOpenSteps
import Derived.Test.YtccbjmmggolhnaaGreatDoorOpenStyle
namespace Go.Proofs.YtccbjmmggolhnaaGreatDoor
open Go.ChangeShapes Go.WideShapes Go.ChangeAt Go.RowKit
open Go.ChangeMaps (open_string shut_string)
set_option linter.unusedVariables false
theorem own_FnListsReset : ownKnob Tryz.prog.godebug = none := by kernel_rfl
theorem laidOut_FnListsReset : laidOutB Tryz.prog = true := by kernel_rfl
theorem door_met_FnListsReset (os : Os) (args : Array Value) : laidMetH Tryz.prog Rows.fnListsResetRow.laid ((tabsW os).forCall (fun _ _ => 0) ⟨#[], args, []⟩).memory := by
  rw [MakeChecks.laidMetH_plain _ _ _ (by kernel_rfl)]; exact tabs_laid os args
set_option maxRecDepth 100000 in
set_option maxHeartbeats 4000000 in
theorem lifted_FnListsReset (os : Os) (started : os.Started) (H : Type) (enc : TypeId × Value → H) :
    ReturnsInHanded {} Tryz.checked os 5 .any (fun w args => (Rows.fnListsResetSpec.pre enc Tryz.prog Tryz.f5 Rows.fnListsResetRow.domain false w args ∧ laidMetH Tryz.prog Rows.fnListsResetRow.laid w) ∧ sizedMet enc Tryz.prog Tryz.f5 (OpenSpec.ofChange Rows.fnListsResetSpec) false w args) (Rows.fnListsResetSpec.post enc Tryz.prog Tryz.f5 false true false false) := by
  refine returnsInHanded_of_change_and (C := Tryz.checked) (X := fun w _ => laidMetH Tryz.prog Rows.fnListsResetRow.laid w) (fun _ _ _ hh h => h.of_heap hh) own_FnListsReset started (by kernel_rfl) Tryz.func5
    (ChangeSpec.witness_shaped (enc := enc) (C := Tryz.checked) (os := os) (X := fun w _ => laidMetH Tryz.prog Rows.fnListsResetRow.laid w) false (tabsW os) #[.slice none 0 0, .slice none 0 0, .agg #[.int .i64 0, .string ⟨#[]⟩, .string ⟨#[]⟩, .string ⟨#[]⟩, .string ⟨#[]⟩, .string ⟨#[]⟩, .string ⟨#[]⟩, .string ⟨#[]⟩, .string ⟨#[]⟩]] 8 (tabsW_os os) (tabsW_shaped os _) (by kernel_rfl) (by kernel_rfl) (by kernel_rfl) (door_met_FnListsReset os _)) ?_
  intro W base args ds gs before hval0 hW _ _ hL _
  have hval : ∀ (j : Nat) t v, Tryz.f5.params[j]? = some t → args[j]? = some v → Value.okWide Tryz.prog W .any base t v := hval0
  have hW' := hW
  obtain ⟨p, q, hA0, hV, rfl, hfz, hnd⟩ := hW
  have hA : DataW.TrodAll enc Tryz.prog W 0 (fun _ => true) true Tryz.f5.params.toList args.toList ds p := hA0
  rw [Tryz.params5] at hA hval
  obtain ⟨v0, vs0, d0, ds0, p0, q0, hargs, rfl, rfl, h0, r0⟩ := trodAll_cons hA
  obtain ⟨v1, vs1, d1, ds1, p1, q1, rfl, rfl, rfl, h1, r1⟩ := trodAll_cons r0
  obtain ⟨v2, vs2, d2, ds2, p2, q2, rfl, rfl, rfl, h2, r2⟩ := trodAll_cons r1
  obtain ⟨rfl, rfl, rfl⟩ := trodAll_nil r2
  obtain rfl : args = #[v0, v1, v2] := by cases args; simp_all
  obtain ⟨rfl, rfl⟩ := trodVars_none hV
  obtain ⟨a0, len0, cap0, rfl⟩ := okWide_slice Tryz.underlying22 (hval 0 22 v0 rfl rfl)
  have k0 := h0
  have lt0 : ∀ x ∈ p0, x.block < W.heap.size := by obtain ⟨m, hm⟩ := k0; exact DataW.trod_lt m _ _ _ hm
  obtain ⟨z0, w0, n0⟩ : ∃ l, StepsAt W W.heap.size a0 len0 cap0 l ∧ (a0 = none → len0 = 0 ∧ cap0 = 0) := by
    obtain ⟨fuel, hf⟩ := h0
    obtain ⟨A1, n1, c1, l, hcs, hst, hz⟩ := steps_in hf
    simp [Value.cells] at hcs
    obtain ⟨rfl, rfl, rfl⟩ := hcs
    exact ⟨l, hst, hz⟩
  obtain ⟨a1, len1, cap1, rfl⟩ := okWide_slice Tryz.underlying22 (hval 1 22 v1 rfl rfl)
  have k1 := h1
  have lt1 : ∀ x ∈ p1, x.block < W.heap.size := by obtain ⟨m, hm⟩ := k1; exact DataW.trod_lt m _ _ _ hm
  obtain ⟨z1, w1, n1⟩ : ∃ l, StepsAt W W.heap.size a1 len1 cap1 l ∧ (a1 = none → len1 = 0 ∧ cap1 = 0) := by
    obtain ⟨fuel, hf⟩ := h1
    obtain ⟨A1, n1, c1, l, hcs, hst, hz⟩ := steps_in hf
    simp [Value.cells] at hcs
    obtain ⟨rfl, rfl, rfl⟩ := hcs
    exact ⟨l, hst, hz⟩
  have k2 := h2
  have lt2 : ∀ x ∈ p2, x.block < W.heap.size := by obtain ⟨m, hm⟩ := k2; exact DataW.trod_lt m _ _ _ hm
  obtain ⟨a2, rfl, nm2⟩ := style_in (hval 2 24 v2 rfl rfl) h2
  clear hA0 hval0
  refine (listsReset_any a0 len0 cap0 z0 a1 len1 cap1 z1 a2 W w0 w1 nm2 n0 n1  ).mono fun e W' ⟨he, bel⟩ => ?_
  subst he
  exact ⟨_, rfl, _, _, _, [], _, [], hW', trodAll_mk1 (shut_bool Tryz.underlying4 _), (trodAll_cons_mk (Below.trod laidOut_FnListsReset (by kernel_rfl) (of_decide_eq_true (by kernel_rfl)) k0 bel lt0) (trodAll_cons_mk (Below.trod laidOut_FnListsReset (by kernel_rfl) (of_decide_eq_true (by kernel_rfl)) k1 bel lt1) (trodAll_cons_mk (Below.trod laidOut_FnListsReset (by kernel_rfl) (of_decide_eq_true (by kernel_rfl)) k2 bel lt2) trodAll_mk0))), rfl, bel.frame _, fun h => by cases h⟩

end Go.Proofs.YtccbjmmggolhnaaGreatDoor
