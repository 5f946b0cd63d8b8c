/- The given statement on FnMachineOnce: the walk lifted to the row's words. For every input, no condition. -/
import Derived.Test.YtlclmpiocbkabaaDoorRows
import Derived.WalkKit
import Derived.ProofKit
import Derived.OpenShut
import Derived.ShutString
import Derived.ChangeOld
import Derived.Below
import Derived.LaidMore
import Derived.Stop.Joined
import Derived.Test.YtlclmpiocbkabaaDoorMachLaid
import Derived.Test.YtlclmpiocbkabaaDoorWOnce
import Derived.Test.YtlclmpiocbkabaaDoorOpen
namespace Go.Proofs.YtlclmpiocbkabaaDoor
open Go.ChangeShapes Go.WideShapes Go.ChangeAt Go.RowKit
open Go.ChangeMaps (open_string shut_string)
set_option linter.unusedVariables false
theorem own_FnMachineOnce : ownKnob Tryd.prog.godebug = none := by kernel_rfl
theorem laidOut_FnMachineOnce : laidOutB Tryd.prog = true := by kernel_rfl
theorem door_met_FnMachineOnce (os : Os) (args : Array Value) : laidMetH Tryd.prog Rows.fnMachineOnceRow.laid ((machW os).forCall (fun _ _ => 0) ⟨#[], args, []⟩).memory := by
  rw [MakeChecks.laidMetH_plain _ _ _ (by kernel_rfl)]; exact mach_laid os args
set_option maxRecDepth 100000 in
set_option maxHeartbeats 4000000 in
theorem lifted_FnMachineOnce (os : Os) (started : os.Started) (H : Type) (enc : TypeId × Value → H) :
    ReturnsInHanded {} Tryd.checked os 4 .any (fun w args => (Rows.fnMachineOnceSpec.pre enc Tryd.prog Tryd.f4 Rows.fnMachineOnceRow.domain false w args ∧ laidMetH Tryd.prog Rows.fnMachineOnceRow.laid w) ∧ sizedMet enc Tryd.prog Tryd.f4 (OpenSpec.ofChange Rows.fnMachineOnceSpec) false w args) (Rows.fnMachineOnceSpec.post enc Tryd.prog Tryd.f4 false true false false) := by
  refine returnsInHanded_of_change_and (C := Tryd.checked) (X := fun w _ => laidMetH Tryd.prog Rows.fnMachineOnceRow.laid w) (fun _ _ _ hh h => h.of_heap hh) own_FnMachineOnce started (by kernel_rfl) Tryd.func4
    (ChangeSpec.witness_shaped (enc := enc) (C := Tryd.checked) (os := os) (X := fun w _ => laidMetH Tryd.prog Rows.fnMachineOnceRow.laid w) false (machW os) #[.string ⟨#[]⟩] 8 (machW_os os) (machW_shaped os _) (by kernel_rfl) (by kernel_rfl) (by kernel_rfl) (door_met_FnMachineOnce os _)) ?_
  intro W base args ds gs before hval0 hW _ _ hL _
  have hval : ∀ (j : Nat) t v, Tryd.f4.params[j]? = some t → args[j]? = some v → Value.okWide Tryd.prog W .any base t v := hval0
  have hW' := hW
  obtain ⟨p, q, hA0, hV, rfl, hfz, hnd⟩ := hW
  have hA : DataW.TrodAll enc Tryd.prog W 0 (fun _ => true) true Tryd.f4.params.toList args.toList ds p := hA0
  rw [Tryd.params4] at hA hval
  obtain ⟨v0, vs0, d0, ds0, p0, q0, hargs, rfl, rfl, h0, r0⟩ := trodAll_cons hA
  obtain ⟨rfl, rfl, rfl⟩ := trodAll_nil r0
  obtain rfl : args = #[v0] := by cases args; simp_all
  obtain ⟨rfl, rfl⟩ := trodVars_none hV
  obtain ⟨a0, rfl, rfl, rfl, w0⟩ := open_string Tryd.underlying9 (hval 0 9 v0 rfl rfl) h0
  clear hA0 hval0
  refine (machOnce_any a0 W    (mach_tabs hL)).mono fun e W' ⟨he, bel⟩ => ?_
  subst he
  exact ⟨_, rfl, _, _, _, [], _, [], hW', trodAll_mk1 (shut_bool Tryd.underlying4 _), (trodAll_cons_mk (shut_string Tryd.underlying9 w0) trodAll_mk0), rfl, bel.frame _, fun h => by cases h⟩

end Go.Proofs.YtlclmpiocbkabaaDoor
