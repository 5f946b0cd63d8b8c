/- A region in any order, by an invariant over what has come up: each operation is walked once in each state, not once in each order. -/
import Derived.Test.YtdkpacgbniclhaaDoorRows
import Derived.Orders
import Derived.WalkKit
namespace Go.Proofs.YtdkpacgbniclhaaDoor
open Go
set_option linter.unusedVariables false
theorem wpAny_inv {P : Program} {ops : Array Oper} {Q : Exit → Act → World → Prop} {md : Region.Mode} (J : Nat → Array Bool → Act → World → Prop)
    (h0 : ∀ l a w, J 0 l a w → Region.ready md ops l = [] ∧ Q .normal a w)
    (hs : ∀ n l a w, J (n + 1) l a w → (Region.ready md ops l = [] → Q .normal a w) ∧ ∀ i ∈ Region.ready md ops l, wpOp P ops Q i (J n (l.setIfInBounds i true)) a w) :
    ∀ n l a w, J n l a w → wpAny P md ops Q n l a w
  | 0, l, a, w, h => h0 l a w h
  | n + 1, l, a, w, h => ⟨(hs n l a w h).1, fun i hi => wpOp_mono (fun a' w' h' => wpAny_inv J h0 hs n _ a' w' h') ((hs n l a w h).2 i hi)⟩
theorem region_inv {P : Program} {ops : Array Oper} {Q : Exit → Act → World → Prop} {id : Nat} {a : Act} {w : World} (hm : P.follows .mixedOrders = true) (J : Nat → Array Bool → Act → World → Prop)
    (h0 : ∀ l a w, J 0 l a w → Region.ready .any ops l = [] ∧ Q .normal a w)
    (hs : ∀ n l a w, J (n + 1) l a w → (Region.ready .any ops l = [] → Q .normal a w) ∧ ∀ i ∈ Region.ready .any ops l, wpOp P ops Q i (J n (l.setIfInBounds i true)) a w)
    (h : J ops.size (Array.replicate ops.size false) a { w with drawn := w.drawn + 1 }) : (Code.region id ops true).wp P Q a w :=
  wp_region_any hm (wpAny_inv J h0 hs _ _ _ _ h)
end Go.Proofs.YtdkpacgbniclhaaDoor
