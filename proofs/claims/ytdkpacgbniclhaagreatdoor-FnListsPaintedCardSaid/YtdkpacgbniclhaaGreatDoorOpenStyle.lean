/- Plain words on memory: a style of a list that came in by value, in the words of the walks. -/
import Derived.Test.YtdkpacgbniclhaaGreatDoorOpenSteps
import Derived.Test.YtdkpacgbniclhaaGreatDoorListPlain
namespace Go.Proofs.YtdkpacgbniclhaaGreatDoor
open Go.RowKit Go.ChangeShapes Go.WideShapes Go.Deep

theorem cellsStyle : Tryz.prog.cellsOf 24 = 9 := by kernel_rfl

set_option maxRecDepth 100000 in
theorem style_in {H : Type} {enc : TypeId × Value → H} {w : World} {r : Reach} {b0 : Nat} {v : Value} {d : DataW H} {p : List MemPlace} (hv : Value.okWide Tryz.prog w r b0 24 v)
    (h : DataW.Trod enc Tryz.prog w 0 (fun _ => true) true 24 v d p) : ∃ st : StyleV, v = st.arg ∧ st.nm = ⟨#[]⟩ := by
  obtain ⟨cs, rfl, hsz⟩ := okWide_struct Tryz.underlying24 hv
  rw [cellsStyle] at hsz
  obtain ⟨l⟩ := cs
  match l, hsz with
  | [c0, c1, c2, c3, c4, c5, c6, c7, c8], _ =>
    obtain ⟨fuel, hf⟩ := h
    obtain ⟨xs, n, _, _, _, hlen, hg⟩ := DataW.trod_struct Tryz.underlying24 hf
    match xs, hlen with
    | [y0, y1, y2, y3, y4, y5, y6, y7, y8], _ =>
      have g0 := hg 0 _ rfl
      have g1 := hg 1 _ rfl
      have g2 := hg 2 _ rfl
      have g3 := hg 3 _ rfl
      have g4 := hg 4 _ rfl
      have g5 := hg 5 _ rfl
      have g6 := hg 6 _ rfl
      have g7 := hg 7 _ rfl
      have g8 := hg 8 _ rfl
      simp only [List.getElem_toArray, List.getElem_cons_zero, List.getElem_cons_succ, cellsInt, cellsString] at g0 g1 g2 g3 g4 g5 g6 g7 g8
      obtain ⟨z, e0, _, _⟩ := DataW.trod_int Tryz.underlying3 (show _ = some y0 from g0)
      obtain ⟨s1, e1, _, _⟩ := DataW.trod_string Tryz.underlying9 (show _ = some y1 from g1)
      obtain ⟨s2, e2, _, _⟩ := DataW.trod_string Tryz.underlying9 (show _ = some y2 from g2)
      obtain ⟨s3, e3, _, _⟩ := DataW.trod_string Tryz.underlying9 (show _ = some y3 from g3)
      obtain ⟨s4, e4, _, _⟩ := DataW.trod_string Tryz.underlying9 (show _ = some y4 from g4)
      obtain ⟨s5, e5, _, _⟩ := DataW.trod_string Tryz.underlying9 (show _ = some y5 from g5)
      obtain ⟨s6, e6, _, _⟩ := DataW.trod_string Tryz.underlying9 (show _ = some y6 from g6)
      obtain ⟨s7, e7, _, _⟩ := DataW.trod_string Tryz.underlying9 (show _ = some y7 from g7)
      obtain ⟨s8, e8, _, _⟩ := DataW.trod_string Tryz.underlying9 (show _ = some y8 from g8)
      simp [Value.cells] at e0 e1 e2 e3 e4 e5 e6 e7 e8
      subst e0 e1 e2 e3 e4 e5 e6 e7 e8
      exact ⟨⟨z, s1, s2, s3, s4, s5, s6, s7, s8, ⟨#[]⟩⟩, rfl, rfl⟩
end Go.Proofs.YtdkpacgbniclhaaGreatDoor
