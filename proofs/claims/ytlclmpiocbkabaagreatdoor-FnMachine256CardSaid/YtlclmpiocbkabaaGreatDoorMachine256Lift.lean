/- The given statement on FnMachine256: the walk lifted to the row's words. For every input, no condition. -/
import Derived.Test.YtlclmpiocbkabaaGreatDoorRows
import Derived.WalkKit
import Derived.ProofKit
import Derived.OpenShut
import Derived.ShutString
import Derived.ChangeOld
import Derived.Below
import Derived.LaidMore
import Derived.Stop.Joined
import Derived.Test.YtlclmpiocbkabaaGreatDoorMachLaid
import Derived.Test.YtlclmpiocbkabaaGreatDoorW256
import Derived.Test.YtlclmpiocbkabaaGreatDoorOpen
namespace Go.Proofs.YtlclmpiocbkabaaGreatDoor
open Go.ChangeShapes Go.WideShapes Go.ChangeAt Go.RowKit
open Go.ChangeMaps (open_string shut_string)
set_option linter.unusedVariables false
theorem own_FnMachine256 : ownKnob Tryz.prog.godebug = none := by kernel_rfl
theorem laidOut_FnMachine256 : laidOutB Tryz.prog = true := by kernel_rfl
theorem door_met_FnMachine256 (os : Os) (args : Array Value) : laidMetH Tryz.prog Rows.fnMachine256Row.laid ((machW os).forCall (fun _ _ => 0) ⟨#[], args, []⟩).memory := by
  rw [MakeChecks.laidMetH_plain _ _ _ (by kernel_rfl)]; exact mach_laid os args
set_option maxRecDepth 100000 in
set_option maxHeartbeats 4000000 in
theorem lifted_FnMachine256 (os : Os) (started : os.Started) (H : Type) (enc : TypeId × Value → H) :
    ReturnsInHanded {} Tryz.checked os 6 .any (fun w args => (Rows.fnMachine256Spec.pre enc Tryz.prog Tryz.f6 Rows.fnMachine256Row.domain false w args ∧ laidMetH Tryz.prog Rows.fnMachine256Row.laid w) ∧ sizedMet enc Tryz.prog Tryz.f6 (OpenSpec.ofChange Rows.fnMachine256Spec) false w args) (Rows.fnMachine256Spec.post enc Tryz.prog Tryz.f6 false true false false) := by
  refine returnsInHanded_of_change_and (C := Tryz.checked) (X := fun w _ => laidMetH Tryz.prog Rows.fnMachine256Row.laid w) (fun _ _ _ hh h => h.of_heap hh) own_FnMachine256 started (by kernel_rfl) Tryz.func6
    (ChangeSpec.witness_shaped (enc := enc) (C := Tryz.checked) (os := os) (X := fun w _ => laidMetH Tryz.prog Rows.fnMachine256Row.laid w) false (machW os) #[.bool false, .int .u8 0] 8 (machW_os os) (machW_shaped os _) (by kernel_rfl) (by kernel_rfl) (by kernel_rfl) (door_met_FnMachine256 os _)) ?_
  intro W base args ds gs before hval0 hW _ _ hL _
  have hval : ∀ (j : Nat) t v, Tryz.f6.params[j]? = some t → args[j]? = some v → Value.okWide Tryz.prog W .any base t v := hval0
  have hW' := hW
  obtain ⟨p, q, hA0, hV, rfl, hfz, hnd⟩ := hW
  have hA : DataW.TrodAll enc Tryz.prog W 0 (fun _ => true) true Tryz.f6.params.toList args.toList ds p := hA0
  rw [Tryz.params6] at hA hval
  obtain ⟨v0, vs0, d0, ds0, p0, q0, hargs, rfl, rfl, h0, r0⟩ := trodAll_cons hA
  obtain ⟨v1, vs1, d1, ds1, p1, q1, rfl, rfl, rfl, h1, r1⟩ := trodAll_cons r0
  obtain ⟨rfl, rfl, rfl⟩ := trodAll_nil r1
  obtain rfl : args = #[v0, v1] := by cases args; simp_all
  obtain ⟨rfl, rfl⟩ := trodVars_none hV
  obtain ⟨a0, rfl, rfl, rfl⟩ := open_bool Tryz.underlying4 (hval 0 4 v0 rfl rfl) h0
  obtain ⟨a1, rfl, rfl, rfl, w1⟩ := open_int Tryz.underlying5 (hval 1 5 v1 rfl rfl) h1
  clear hA0 hval0
  refine (mach256_any a0 a1 W  (bounds_u8 w1) (mach_tabs hL)).mono fun e W' ⟨he, bel⟩ => ?_
  subst he
  exact ⟨_, rfl, _, _, _, [], _, [], hW', trodAll_mk1 (shut_bool Tryz.underlying4 _), (trodAll_cons_mk (shut_bool Tryz.underlying4 a0) (trodAll_cons_mk (shut_int Tryz.underlying5 w1) trodAll_mk0)), rfl, bel.frame _, fun h => by cases h⟩

end Go.Proofs.YtlclmpiocbkabaaGreatDoor
