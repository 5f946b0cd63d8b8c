/- The given statement on FnPaintTitleLower: the walk lifted to the row's words. For every input, no condition. -/
import Derived.Test.YtlclmpiocbkabaaDoorRows
import Derived.WalkKit
import Derived.ProofKit
import Derived.OpenShut
import Derived.ShutString
import Derived.ChangeOld
import Derived.Below
import Derived.LaidMore
import Derived.Stop.Joined
import Derived.Test.YtlclmpiocbkabaaDoorTitleLaid
import Derived.Test.YtlclmpiocbkabaaDoorPaintTitleLower
import Derived.Test.YtlclmpiocbkabaaDoorOpen
import Derived.Test.YtlclmpiocbkabaaDoorOpenPieces
namespace Go.Proofs.YtlclmpiocbkabaaDoor
open Go.ChangeShapes Go.WideShapes Go.ChangeAt Go.RowKit
open Go.ChangeMaps (open_string shut_string)
set_option linter.unusedVariables false
theorem own_FnPaintTitleLower : ownKnob Tryd.prog.godebug = none := by kernel_rfl
theorem laidOut_FnPaintTitleLower : laidOutB Tryd.prog = true := by kernel_rfl
theorem door_met_FnPaintTitleLower (os : Os) (args : Array Value) : laidMetH Tryd.prog Rows.fnPaintTitleLowerRow.laid ((titleW os).forCall (fun _ _ => 0) ⟨#[], args, []⟩).memory := by
  rw [MakeChecks.laidMetH_plain _ _ _ (by kernel_rfl)]; exact title_laid os args
set_option maxRecDepth 100000 in
set_option maxHeartbeats 4000000 in
theorem lifted_FnPaintTitleLower (os : Os) (started : os.Started) (H : Type) (enc : TypeId × Value → H) :
    ReturnsInHanded {} Tryd.checked os 3 .any (fun w args => (Rows.fnPaintTitleLowerSpec.pre enc Tryd.prog Tryd.f3 Rows.fnPaintTitleLowerRow.domain false w args ∧ laidMetH Tryd.prog Rows.fnPaintTitleLowerRow.laid w) ∧ sizedMet enc Tryd.prog Tryd.f3 (OpenSpec.ofChange Rows.fnPaintTitleLowerSpec) false w args) (Rows.fnPaintTitleLowerSpec.post enc Tryd.prog Tryd.f3 false true false false) := by
  refine returnsInHanded_of_change_and (C := Tryd.checked) (X := fun w _ => laidMetH Tryd.prog Rows.fnPaintTitleLowerRow.laid w) (fun _ _ _ hh h => h.of_heap hh) own_FnPaintTitleLower started (by kernel_rfl) Tryd.func3
    (ChangeSpec.witness_shaped (enc := enc) (C := Tryd.checked) (os := os) (X := fun w _ => laidMetH Tryd.prog Rows.fnPaintTitleLowerRow.laid w) false (titleW os) #[.slice none 0 0] 8 (titleW_os os) (titleW_shaped os _) (by kernel_rfl) (by kernel_rfl) (by kernel_rfl) (door_met_FnPaintTitleLower os _)) ?_
  intro W base args ds gs before hval0 hW _ _ hL _
  have hval : ∀ (j : Nat) t v, Tryd.f3.params[j]? = some t → args[j]? = some v → Value.okWide Tryd.prog W .any base t v := hval0
  have hW' := hW
  obtain ⟨p, q, hA0, hV, rfl, hfz, hnd⟩ := hW
  have hA : DataW.TrodAll enc Tryd.prog W 0 (fun _ => true) true Tryd.f3.params.toList args.toList ds p := hA0
  rw [Tryd.params3] at hA hval
  obtain ⟨v0, vs0, d0, ds0, p0, q0, hargs, rfl, rfl, h0, r0⟩ := trodAll_cons hA
  obtain ⟨rfl, rfl, rfl⟩ := trodAll_nil r0
  obtain rfl : args = #[v0] := by cases args; simp_all
  obtain ⟨rfl, rfl⟩ := trodVars_none hV
  obtain ⟨a0, len0, cap0, rfl⟩ := okWide_slice Tryd.underlying22 (hval 0 22 v0 rfl rfl)
  have k0 := h0
  have lt0 : ∀ x ∈ p0, x.block < W.heap.size := by obtain ⟨m, hm⟩ := k0; exact DataW.trod_lt m _ _ _ hm
  obtain ⟨z0, w0, n0⟩ : ∃ l, PiecesAt W W.heap.size a0 len0 cap0 l ∧ (a0 = none → len0 = 0 ∧ cap0 = 0) := by
    obtain ⟨fuel, hf⟩ := h0
    obtain ⟨A1, n1, c1, l, hcs, hst, hz⟩ := pieces_in hf
    simp [Value.cells] at hcs
    obtain ⟨rfl, rfl, rfl⟩ := hcs
    exact ⟨l, hst, hz⟩
  clear hA0 hval0
  refine (titleLower_any a0 len0 cap0 z0 W w0  (title_tabs hL)).mono fun e W' ⟨he, bel⟩ => ?_
  subst he
  exact ⟨_, rfl, _, _, _, [], _, [], hW', trodAll_mk1 (shut_bool Tryd.underlying4 _), (trodAll_cons_mk (Below.trod laidOut_FnPaintTitleLower (by kernel_rfl) (of_decide_eq_true (by kernel_rfl)) k0 bel lt0) trodAll_mk0), rfl, bel.frame _, fun h => by cases h⟩

end Go.Proofs.YtlclmpiocbkabaaDoor
