/- Walk of spec.PtRising over numbers that rise. -/
import Derived.Test.YtlclmpiocbkabaaDoorCodes
import Derived.Test.YtlclmpiocbkabaaDoorWords
import Derived.Deep.QuietTactic
import Derived.BigQuiet
import Derived.Deep.RegionHeld3
namespace Go.Proofs.YtlclmpiocbkabaaDoor
open Go.RowKit
set_option linter.unusedVariables false
set_option linter.unusedSimpArgs false

theorem rising_step {l : List Int} (h : Rising l) {k : Nat} {x y : Int} (hx : l[k]? = some x) (hy : l[k + 1]? = some y) : x < y := by
  unfold Rising at h
  rw [List.pairwise_iff_getElem] at h
  obtain ⟨h1, rfl⟩ := List.getElem?_eq_some_iff.1 hx
  obtain ⟨h2, rfl⟩ := List.getElem?_eq_some_iff.1 hy
  exact h k (k + 1) h1 h2 (by omega)
set_option maxRecDepth 100000 in
set_option maxHeartbeats 2000000 in
theorem ptRising_any (A : Option Addr) (n c : Nat) (l : List Int) (w : World) (h : IntsAt w w.heap.size A n c l) (hr : Rising l) (hn : n ≤ 1000000) :
    Calls Tryd.prog 17 #[.slice A n c] w fun e w' => e = .returned (.bool true) ∧ Below w.heap.size w w' := by
  have HR := Lib.hid hr
  clear hr
  go_enter Tryd.func17, Tryd.ntmps17
  go_wp2
  go_loopw [3] (fun v3 wr => ∃ m : Nat, v3 = .int .i64 (m : Int) ∧ 1 ≤ m ∧ m ≤ n + 1 ∧ Below w.heap.size w wr) (fun v3 _ => n + 1 - (intOf v3).toNat)
  case atStart => exact ⟨1, rfl, Nat.le_refl _, by omega, Below.refl _ _⟩
  case round =>
    obtain ⟨m, rfl, hm1, hm, hbw⟩ := hrel
    by_cases hlt : m < n
    · obtain ⟨k, hk⟩ : ∃ k, m = k + 1 := ⟨m - 1, by omega⟩
      obtain ⟨ad, x, rfl, _, hx, hcx⟩ := IntsAt.at_ (h.below hbw) (show k < n by omega)
      obtain ⟨ad2, y, e2, _, hy, hcy⟩ := IntsAt.at_ (h.below hbw) hlt
      injection e2 with e2
      subst e2
      have hxy : x < y := rising_step HR.out hx (by rw [← hk]; exact hy)
      have hyx : ¬ y ≤ x := by omega
      have h1 : (m : Int) < (n : Int) := by omega
      have hw1 : IntKind.i64.wrap ((m : Int) - 1) = (k : Int) := by rw [IntKind.wrap_i64]; omega
      have hw2 : wrap64 ((m : Int) + 1) = (m : Int) + 1 := IntWalk.wrap64_in _ ⟨by omega, by omega⟩
      have hbd := hbw.drew
      have hi1 : (0 : Int) ≤ (k : Int) := by omega
      have hi2 : (k : Int) < (n : Int) := by omega
      have hi3 : (0 : Int) ≤ (m : Int) := by omega
      have hcxd : wr.drew.cell? (ad.add k) = some (.int .i64 x) := hcx
      have hcyd : wr.drew.cell? (ad.add m) = some (.int .i64 y) := hcy
      have hkn : k < n := by omega
      clear hx hy hk
      go_wp2
      go_region_held3 (fun w' => w'.cell? (ad.add k) = some (.int .i64 x) ∧ w'.cell? (ad.add m) = some (.int .i64 y) ∧ Below w.heap.size w w') (first | exact ⟨hcxd, hcyd, hbd⟩ | exact ⟨hcx, hcy, hbw⟩) (fail)
      go_wp2
      go_roundw
      case rel => exact ⟨m + 1, by go_num, by omega, by omega, hbd⟩
      case measure => simp [intOf]; omega
    · have h1 : ¬ (m : Int) < (n : Int) := by omega
      go_wp2
      go_ret
      exact ⟨rfl, hbw⟩
end Go.Proofs.YtlclmpiocbkabaaDoor
