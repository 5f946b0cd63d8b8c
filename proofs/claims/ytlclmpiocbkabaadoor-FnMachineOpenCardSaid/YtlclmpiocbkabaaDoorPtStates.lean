/- Walks of spec.PtValid and laws.ptStates. Conditions: the library's tables as they are laid; the size that is named. -/
import Derived.Test.YtlclmpiocbkabaaDoorTextParse
import Derived.Laws.Cover4
namespace Go.Proofs.YtlclmpiocbkabaaDoor
open Go.RowKit
set_option linter.unusedVariables false
set_option linter.unusedSimpArgs false

theorem runes_range (s : ByteArray) (pos : Nat) : ∀ r ∈ runesFrom s pos, 0 ≤ r ∧ r ≤ 1114111 := by
  by_cases h : pos < s.size
  · rw [runesFrom_step h]
    intro r hr
    rcases List.mem_cons.1 hr with rfl | hr
    · have := decode_le_max s pos; omega
    · exact runes_range s _ r hr
  · rw [runesFrom_end h]
    intro r hr
    simp at hr
termination_by s.size - pos
decreasing_by
  have := Lib.decode_width_pos s pos h
  omega

set_option maxRecDepth 100000 in
set_option maxHeartbeats 2000000 in
theorem ptValid_any (s : ByteArray) (w : World) :
    Calls Tryd.prog 12 #[.string s] w fun e w' => ∃ b : Bool, e = .returned (.bool b) ∧ (b = true → s.size ≤ 400) ∧ Below w.heap.size w w' := by
  by_cases h : s.size ≤ 400
  · obtain ⟨c, w1, hconv, hbw1, hsz1, hrd, hown⟩ := run_runes (P := Tryd.prog) w 9 45 21 s Tryd.underlying9 Tryd.underlying45 Tryd.underlying21 (by omega)
    have hback := run_convert_runes (P := Tryd.prog) w1 45 9 21 ⟨w.heap.size, 0, none⟩ (runes s).length c (runes s) (Nat.le_refl _) Tryd.underlying45 Tryd.underlying21 Tryd.underlying9 (fun j hj => by
      obtain ⟨ad, x, e, _, hx, hc⟩ := hrd.at_ hj
      injection e with e
      subst e
      rw [hc, List.getD_eq_getElem?_getD, hx]
      rfl)
    have H := Lib.hid h
    generalize runesBytes ((runes s).take (runes s).length) = X at hback
    generalize (runes s).length = n at *
    clear hrd hown
    have h1 : (s.size : Int) ≤ 400 := by omega
    go_enter Tryd.func12, Tryd.ntmps12
    go_wp2
    go_ret
    exact ⟨_, rfl, fun _ => H.out, hbw1⟩
  · have h1 : ¬ (s.size : Int) ≤ 400 := by omega
    go_enter Tryd.func12, Tryd.ntmps12
    go_wp2
    go_ret
    exact ⟨rfl, Below.refl _ _⟩

def stepsOf (rs : List Int) : List EStep := rs.map fun r => ⟨0, r, ⟨#[]⟩⟩
theorem stepsOf_cells (rs : List Int) : stepsV (stepsOf rs) = stepsC rs := by
  unfold stepsV stepsOf stepsC
  rw [List.flatMap_map]
  rfl
theorem run_stepsOf : ∀ (rs : List Int) (s : PS), runP s (stepsOf rs) = consumeAll s rs
  | [], _ => rfl
  | r :: rs, s => run_stepsOf rs (consume s r)
theorem take_stepsOf (rs : List Int) (k : Nat) : (stepsOf rs).take k = stepsOf (rs.take k) := by unfold stepsOf; rw [List.map_take]
theorem fine_take (rs : List Int) (h : rs.length ≤ 500) (k : Nat) : Fine 9000 (runP fresh ((stepsOf rs).take k)) := by
  rw [take_stepsOf, run_stepsOf]
  exact (Fine.all (s := fresh) _ Fine.start).more (by have := List.length_take_le' k rs; omega)
/-- The states behind the characters of a text. -/
def charStates (rs : List Int) : List EState := statesOf fresh (stepsOf rs)
theorem charStates_len (rs : List Int) : (charStates rs).length = rs.length := by unfold charStates; rw [statesOf_len]; unfold stepsOf; rw [List.length_map]
theorem charStates_snoc (rs : List Int) (r : Int) : charStates (rs ++ [r]) = charStates rs ++ [stOf (consumeAll fresh (rs ++ [r])) ⟨#[]⟩] := by
  unfold charStates
  have e : stepsOf (rs ++ [r]) = stepsOf rs ++ [⟨0, r, ⟨#[]⟩⟩] := by unfold stepsOf; rw [List.map_append]; rfl
  have e2 : consumeAll fresh (rs ++ [r]) = consume (consumeAll fresh rs) r := by unfold consumeAll; rw [List.foldl_append]; rfl
  rw [e, statesOf_snoc, run_stepsOf, e2]
  rfl
theorem charStates_last {rs : List Int} (h : rs ≠ []) : (charStates rs)[rs.length - 1]? = some (stOf (consumeAll fresh rs) ⟨#[]⟩) := by
  rcases List.eq_nil_or_concat rs with rfl | ⟨t, r, rfl⟩
  · exact absurd rfl h
  · rw [List.concat_eq_append, charStates_snoc, List.length_append]
    rw [List.getElem?_append_right (by rw [charStates_len]; simp), charStates_len]
    simp
theorem OwnStates.base {w : World} {B B' n : Nat} {v : Value} {l : List EState} (h : OwnStates w B v n l) (hB : B' ≤ B) : OwnStates w B' v n l := by
  obtain ⟨xs, a, b, c⟩ := h
  refine ⟨xs, own_base a hB, b, fun k s hk => ?_⟩
  obtain ⟨vc, h1, h2, h3, h4, h5, h6⟩ := c k s hk
  exact ⟨vc, h1, h2, h3, h4, h5, own_base h6 hB⟩

set_option maxRecDepth 100000 in
set_option maxHeartbeats 2000000 in
theorem ptStates_any (t : ByteArray) (w : World) (ht : t.size ≤ 500) (hT : TabsB w.heap.size w) :
    Calls Tryd.prog 16 #[.string t] w fun e w' => ∃ v, e = .returned v ∧ OwnStates w' w.heap.size v (runes t).length (charStates (runes t)) ∧ Below w.heap.size w w' := by
  have hl := runes_length t
  have HT := Lib.hid hT
  clear hT
  go_enter Tryd.func16, Tryd.ntmps16
  go_wp2_with fail
  refine (ptSteps_any t _ (by omega)).mono ?_
  rintro e w1 ⟨v1, rfl, hown, hb1⟩
  obtain ⟨A, c, rfl, hr⟩ := own_rd hown
  rw [← stepsOf_cells] at hr
  have hat : EStepsAt w1 w1.heap.size A (runes t).length c (stepsOf (runes t)) := ⟨hr, by unfold stepsOf; rw [List.length_map]⟩
  have HAT := Lib.hid hat
  clear hown hr hat
  go_wp2_with fail
  refine (textParse_any A (runes t).length c (stepsOf (runes t)) _ HAT.out (HT.out.then hb1).now.stay (by omega) ?_ ?_).mono ?_
  · intro x hx
    unfold stepsOf at hx
    rw [List.mem_map] at hx
    obtain ⟨r, hr, rfl⟩ := hx
    exact Or.inl ⟨rfl, runes_range t 0 r hr⟩
  · exact fun k _ => fine_take _ (by omega) k
  · rintro e w2 ⟨v, rfl, hst, hb2⟩
    have hb12 := hb1.trans (hb2.mono hb1.size)
    have hst2 := hst.base hb1.size
    go_wp2
    go_ret
    exact ⟨_, rfl, hst2, hb12⟩
end Go.Proofs.YtlclmpiocbkabaaDoor
