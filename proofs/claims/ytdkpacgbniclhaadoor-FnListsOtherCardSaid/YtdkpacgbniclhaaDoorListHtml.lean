/- Walks of RenderHTML and impl.ListHTML: what some steps look like in HTML. Condition: sizes below the bounds that are named. -/
import Derived.Test.YtdkpacgbniclhaaDoorHtml
namespace Go.Proofs.YtdkpacgbniclhaaDoor
open Go.RowKit

theorem Bld.base {w : World} {B B' ob : Nat} {l : List UInt8} (h : Bld w B ob l) (hb : B' ≤ B) : Bld w B' ob l := by
  have key : ∀ p, Lib.BuilderAtF 97 5 B ob p (Lib.byteCells l) w → Lib.BuilderAtF 97 5 B' ob p (Lib.byteCells l) w := by
    intro p hp
    obtain ⟨h1, v, h2, h3, h4⟩ := hp
    refine ⟨by omega, v, h2, ⟨h3.1, ?_⟩, h4⟩
    rcases h3.2 with h5 | ⟨g, cap, cur, fz, hv, hg, r⟩
    · exact Or.inl h5
    · exact Or.inr ⟨g, cap, cur, fz, hv, by omega, r⟩
  rcases h with h | h
  · exact Or.inl (key _ h)
  · exact Or.inr (key _ h)

def htmlAll (css : List UInt8) (items : List (ByteArray × Nat)) : List UInt8 := match items with
  | [] => []
  | x :: _ => openH css x.2 ++ (htmlL css items (2 * items.length + 2) x.2 0 0).1 ++ closeH x.2

set_option maxHeartbeats 2000000 in
theorem listRender_any (B b ob : Nat) (acc : List UInt8) (w : World) (h : Bld w B ob acc) :
    Calls Tryd.prog 59 #[.pointer (some ⟨b, 0, none⟩), .pointer (some ⟨ob, 0, none⟩)] w fun e w' => e = .returned (.string ⟨acc.toArray⟩) ∧ Below B w w' := by
  have hlt := h.lt
  go_enter Tryd.func59, Tryd.ntmps59
  go_wp2_with fail
  refine (bld_string B ob acc w h (by omega)).mono ?_
  rintro e w1 ⟨rfl, _, hb1, _⟩
  go_wp2
  go_ret
  exact ⟨rfl, hb1⟩

end Go.Proofs.YtdkpacgbniclhaaDoor
