/- Walk of laws.FnMachineOnce: it answers true and writes nothing that was there. Condition: the library's tables as they are laid. -/
import Derived.Test.YtlclmpiocbkabaaDoorPtAll
import Derived.Deep.RegionHeld3
namespace Go.Proofs.YtlclmpiocbkabaaDoor
open Go.RowKit
set_option linter.unusedVariables false
set_option linter.unusedSimpArgs false

set_option maxRecDepth 100000 in
set_option maxHeartbeats 8000000 in
theorem machOnce_any (s : ByteArray) (w : World) (hT : Tabs w) :
    Calls Tryd.prog 4 #[.string s] w fun e w' => e = .returned (.bool true) ∧ Below w.heap.size w w' := by
  have HT := Lib.hid hT.stay
  clear hT
  by_cases h31 : 2147483647 < s.size
  · have h1' : (2147483647 : Int) < (s.size : Int) := by omega
    go_enter Tryd.func4, Tryd.ntmps4
    go_wp2
    go_ret
    exact ⟨rfl, Below.refl _ _⟩
  have h1' : ¬ (2147483647 : Int) < (s.size : Int) := by omega
  clear h31
  go_enter Tryd.func4, Tryd.ntmps4
  go_wp2_with fail
  refine (ptValid_any s _).mono ?_
  rintro e w1 ⟨b, rfl, hb, hb1⟩
  cases b with
  | false =>
    go_wp2
    go_ret
    exact ⟨rfl, hb1⟩
  | true =>
  have hs := hb rfl
  clear hb
  cases he : s.toList.isEmpty with
  | true =>
    go_wp2
    go_ret
    exact ⟨rfl, hb1⟩
  | false =>
  have hpos : 0 < s.size := by
    rw [str_none] at he
    have := of_decide_eq_false he
    omega
  have hne := runes_ne hpos
  have HE := Lib.hid he
  obtain ⟨p, hp⟩ : ∃ p, p = consumeAll fresh (runes s) := ⟨_, rfl⟩
  have hl := runes_length s
  have hfine : Fine 9000 p := by rw [hp]; exact (Fine.all (s := fresh) (runes s) Fine.start).more (by omega)
  have HX := Lib.hid (show lastOf (runes s) = stOf p ⟨#[]⟩ by unfold lastOf; rw [if_neg hne, hp])
  have HA := Lib.hid (show statesOf fresh [⟨1, 0, s⟩] = [stOf p (seqB p.codes)] by
    have e : stepP fresh ⟨1, 0, s⟩ = p := by rw [hp]; rfl
    show [stOf (stepP fresh ⟨1, 0, s⟩) (seqB (stepP fresh ⟨1, 0, s⟩).codes)] = _
    rw [e])
  have hF : ∀ k, k ≤ 1 → Fine 9000 (runP fresh ([(⟨1, 0, s⟩ : EStep)].take k)) := by
    intro k hk
    match k, hk with
    | 0, _ => exact Fine.start.more (by omega)
    | 1, _ => exact (show Fine 9000 (consumeAll fresh (runes s)) from hp ▸ hfine)
  have HF := Lib.hid hF
  have HS := Lib.hid hs
  have hb2 := hb1.alloc hb1.size (.cells #[.int .i64 1, .int .i32 0, .string s] 36)
  have hat : EStepsAt (w1.alloc (.cells #[.int .i64 1, .int .i32 0, .string s] 36)) (w1.alloc (.cells #[.int .i64 1, .int .i32 0, .string s] 36)).heap.size (some ⟨w1.heap.size, 0, none⟩) 1 1 [⟨1, 0, s⟩] :=
    ⟨⟨rfl, Nat.le_refl _, by omega, fun _ => ⟨_, rfl, by simp, World.news_of_block (cs := #[.int .i64 1, .int .i32 0, .string s]) (heap_alloc_new w1 _)⟩⟩, rfl⟩
  have HAT := Lib.hid hat
  have HT2 := Lib.hid (HT.out.then hb2).now.stay
  clear hat hF hfine hne hl hs hpos
  go_wp2_with fail
  refine (textParse_any _ 1 1 [⟨1, 0, s⟩] _ HAT.out HT2.out (by decide) ?_ HF.out).mono ?_
  · intro x hx
    rw [List.mem_singleton.1 hx]
    exact Or.inr ⟨rfl, by have := HS.out; show s.size ≤ 500; omega⟩
  rintro e w3 ⟨v3, rfl, hst, hb3⟩
  rw [HA.out] at hst
  have hbw3 := hb2.trans (hb3.mono hb2.size)
  obtain ⟨ad, c3, st, A3, d3, rfl, hx, e0, e1, e2, e3, e4, hi3⟩ := hst.at_ (show 0 < 1 by decide)
  simp at hx
  subst hx
  dsimp only [stOf] at e0 e1 e2 e3 e4 hi3
  have HT3 := Lib.hid (HT.out.then hbw3).now.stay
  have hadl := block_lt_of_cell e0
  clear hst hb2 hb3 hb1
  go_wp2_with fail
  refine (ptLast_any s _ (by have := HS.out; omega) HT3.out).mono ?_
  rintro e w4 ⟨A4, c4, rfl, hi4, hb4⟩
  rw [HX.out] at hi4 ⊢
  dsimp only [stAgg, stOf] at hi4 ⊢
  have hz : ad.add (0 * 5) = ad := by simp [Addr.add]
  rw [hz] at e0 e1 e2 e3 e4 hadl
  obtain ⟨cl, hcle⟩ : ∃ cl, cl = p.codes.length := ⟨_, rfl⟩
  rw [← hcle] at e1 e2 hi3 hi4 ⊢
  generalize hcd : p.codes = codes at *
  generalize decide (0 < cl) = ob at *
  generalize seqB codes = q at *
  generalize p.inE = ie at *
  obtain ⟨w5, hw5⟩ : ∃ w5, w5 = w4.alloc (.cells #[.bool ie, .bool ob, .slice A4 cl c4, .string q, .string ⟨#[]⟩] 39) := ⟨_, rfl⟩
  obtain ⟨K, hK⟩ : ∃ K, K = w4.heap.size := ⟨_, rfl⟩
  have hf5 : w5.heap[K]? = some (.cells #[.bool ie, .bool ob, .slice A4 cl c4, .string q, .string ⟨#[]⟩] 39 (0, 0)) := by rw [hw5, hK]; exact heap_alloc_new w4 _
  have hb45 : Below w4.heap.size w4 w5 := by rw [hw5]; exact (Below.refl _ _).alloc (Nat.le_refl _) _
  have hb35 := hb4.trans (hb45.mono hb4.size)
  have hbw5 := hbw3.trans (hb35.mono hbw3.size)
  have f0 : w5.cell? ad = some (.bool ie) := (hb35.cell (p := ad) hadl).trans e0
  have f1 : w5.cell? ⟨ad.block, ad.off + 1, none⟩ = some (.bool ob) := (hb35.cell (p := ⟨ad.block, ad.off + 1, none⟩) hadl).trans e1
  have f2 : w5.cell? ⟨ad.block, ad.off + 2, none⟩ = some (.slice A3 cl d3) := (hb35.cell (p := ⟨ad.block, ad.off + 2, none⟩) hadl).trans e2
  have f3 : w5.cell? ⟨ad.block, ad.off + 3, none⟩ = some (.string q) := (hb35.cell (p := ⟨ad.block, ad.off + 3, none⟩) hadl).trans e3
  have g0 : w5.cell? ⟨K, 0, none⟩ = some (.bool ie) := cell_of_row w5 K 0 _ _ _ hf5
  have g1 : w5.cell? ⟨K, 1, none⟩ = some (.bool ob) := cell_of_row w5 K 1 _ _ _ hf5
  have g2 : w5.cell? ⟨K, 2, none⟩ = some (.slice A4 cl c4) := cell_of_row w5 K 2 _ _ _ hf5
  have g3 : w5.cell? ⟨K, 3, none⟩ = some (.string q) := cell_of_row w5 K 3 _ _ _ hf5
  have HI3 := Lib.hid (show IntsAt w5.drew w5.drew.heap.size A3 cl d3 codes from Rd.drew ((hi3.below hb35).more hb35.size))
  have HI4 := Lib.hid (show IntsAt w5.drew w5.drew.heap.size A4 cl c4 codes from Rd.drew (((show IntsAt w4 w4.heap.size A4 cl c4 codes from hi4).below hb45).more hb45.size))
  have HAL := Lib.hid (alike_refl codes)
  have HW5 := Lib.hid hw5
  have HK := Lib.hid hK
  have hb55 : Below w5.heap.size w5 w5 := Below.refl _ _
  clear e0 e1 e2 e3 e4 hi3 hi4 hb4 hb45 hb35 hf5 hw5 hK hz hcle hcd hbw3 HA HX HF hp
  go_upto_region 7 with (fail)
  rw [← HW5.out, ← HK.out]
  go_region_held3 (fun w' => w'.cell? ad = some (.bool ie) ∧ w'.cell? ⟨ad.block, ad.off + 1, none⟩ = some (.bool ob) ∧ w'.cell? ⟨ad.block, ad.off + 2, none⟩ = some (.slice A3 cl d3) ∧ w'.cell? ⟨ad.block, ad.off + 3, none⟩ = some (.string q) ∧ w'.cell? ⟨K, 0, none⟩ = some (.bool ie) ∧ w'.cell? ⟨K, 1, none⟩ = some (.bool ob) ∧ w'.cell? ⟨K, 2, none⟩ = some (.slice A4 cl c4) ∧ w'.cell? ⟨K, 3, none⟩ = some (.string q) ∧ Below w5.heap.size w5 w')
    (first | exact ⟨f0, f1, f2, f3, g0, g1, g2, g3, hb55.drew⟩)
    (first
      | (go_at_call 15; refine (alike_any A3 A4 cl d3 cl c4 codes codes _ _ HI3.out HI4.out).mono ?_; rintro e w9 ⟨rfl, rfl⟩; rw [HAL.out]))
  have hbF := hbw5.trans (hb55.drew.mono hbw5.size)
  go_wp2
  go_ret
  exact ⟨rfl, hbF⟩
end Go.Proofs.YtlclmpiocbkabaaDoor
