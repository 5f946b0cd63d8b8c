/- Walks of strings.Map under text.toTitle's function value, of toTitle, impl.TextFormat: of a text of ASCII. Condition: the size that is named. -/
import Derived.Test.YtlclmpiocbkabaaDoorTitle
import Derived.Lib.RuneBytes
import Derived.Shelf.Strings.BuilderRune
namespace Go.Proofs.YtlclmpiocbkabaaDoor
open Go.RowKit
set_option linter.unusedVariables false
set_option linter.unusedSimpArgs false

theorem enc_low {b : UInt8} (h : b.toNat < 128) : Lib.encodeRune (b.toNat : Int) = [b] := by
  have : ∀ i : Fin 128, Lib.encodeRune ((i.val : Nat) : Int) = [UInt8.ofNat i.val] := by decide
  have e := this ⟨b.toNat, h⟩
  simp only at e
  rw [e]
  simp
theorem runeCells_low {b : UInt8} (h : b.toNat < 128) : Lib.runeCells (b.toNat : Int) = Lib.byteCells [b] := by
  rw [← Lib.byteCells_encodeRune, enc_low h]
theorem TitleAt.same {w w' : World} {a : Nat} {e : Bool} {p : UInt8} (h : TitleAt w a e p) (h1 : w'.heap[a]? = w.heap[a]?) (h2 : w'.heap[a + 1]? = w.heap[a + 1]?) : TitleAt w' a e p := ⟨h1.trans h.1, h2.trans h.2⟩
theorem TitleAt.below {w w' : World} {a B : Nat} {e : Bool} {p : UInt8} (h : TitleAt w a e p) (hb : Below B w w') (ha : a + 1 < B) : TitleAt w' a e p := h.same (hb.block a (by omega)) (hb.block (a + 1) ha)
theorem TitleAt.others {w w' : World} {a b : Nat} {e : Bool} {p : UInt8} (h : TitleAt w a e p) (ho : Lib.OthersKept 5 (some b) w w') (ha : a + 1 < b) : TitleAt w' a e p :=
  ⟨ho a _ h.1 (by intro q; injection q with q; omega) (fun c fz q => by injection q with _ q; revert q; decide), ho (a + 1) _ h.2 (by intro q; injection q with q; omega) (fun c fz q => by injection q with _ q; revert q; decide)⟩
set_option maxHeartbeats 2000000 in
theorem cap_any (b n c : Nat) (A : Option Addr) (w : World) (h : w.cell? ⟨b, 1, none⟩ = some (.slice A n c)) :
    Calls Tryd.prog 78 #[.pointer (some ⟨b, 0, none⟩)] w fun e w' => e = .returned (.int .i64 c) ∧ w = w' := by
  go_enter Tryd.func78, Tryd.ntmps78
  go_wp2
  go_ret
  exact ⟨rfl, rfl⟩
theorem builder_cap {T e : TypeId} {B b : Nat} {p : Value} {l : List UInt8} {w : World} (h : Lib.BuilderAtF T e B b p (Lib.byteCells l) w) (hl : l ≠ []) : ∃ A n c, w.cell? ⟨b, 1, none⟩ = some (.slice A n c) ∧ 0 < c ∧ c ≤ 9223372036854775807 := by
  obtain ⟨_, v, hb, ho, _⟩ := h
  have hc := cell_of_row w b 1 _ _ _ hb
  have hlen : 0 < (Lib.byteCells l).length := by rw [Lib.byteCells_length]; exact List.length_pos_iff.2 hl
  rcases ho.2 with ⟨_, h0⟩ | ⟨g, cap, cur, fz, rfl, _, _, _, h1, h2, _⟩
  · omega
  · exact ⟨_, _, cap, hc, by omega, by unfold maxLen at h2; omega⟩
theorem OthersIter {b : Nat} {w w' : World} {K j : Nat} {t : ByteArray} (h : w.heap[K]? = some (.stringIter t j)) (ho : Lib.OthersKept 5 (some b) w w') (hK : K ≠ b) : w'.heap[K]? = some (.stringIter t j) := ho K _ h (by intro q; injection q with q; exact hK q) (fun c fz q => by cases q)
theorem extract_bl (s : ByteArray) (k : Nat) : bl (s.extract k s.size) = (bl s).drop k := by
  rw [bl, Lib.extract_data]
  rw [show s.size = (bl s).length from (bl_size s).symm]
  rw [List.take_of_length_le (by rw [List.length_drop]; exact Nat.le_refl _)]
theorem extract_bl0 (s : ByteArray) (k : Nat) : bl (s.extract 0 k) = (bl s).take k := by
  rw [bl, Lib.extract_data]
  simp
/-- A character of a text of ASCII. -/
theorem ascii_next {s : ByteArray} (hs : ∀ b ∈ bl s, b.toNat < 128) {k pos : Nat} {r : Int} (hk : k < s.size) (hle : pos ≤ s.size) (hr : runesFrom s k = r :: runesFrom s pos) : ∃ b, (bl s)[k]? = some b ∧ b.toNat < 128 ∧ r = (b.toNat : Int) ∧ pos = k + 1 := by
  have hb : (bl s)[k]? = some (bl s)[k] := List.getElem?_eq_getElem (by rw [bl_size]; exact hk)
  rw [runes_ascii s hs k, runes_ascii s hs pos, drop_step hb, List.map_cons] at hr
  injection hr with h1 h2
  have := congrArg List.length h2
  simp only [List.length_map, List.length_drop, bl_size] at this
  exact ⟨_, hb, hs _ (List.getElem_mem _), h1.symm, by omega⟩

set_option maxRecDepth 100000 in
set_option maxHeartbeats 8000000 in
theorem map_any (a : Nat) (e : Bool) (p : UInt8) (s : ByteArray) (w : World) (h : TitleAt w a e p) (ha : a + 1 < w.heap.size) (hs : ∀ b ∈ bl s, b.toNat < 128) (hp : p.toNat < 128) (hz : s.size ≤ 65536) :
    Calls Tryd.prog 56 #[.func (.func 58) #[] #[.pointer (some ⟨a + 1, 0, none⟩), .pointer (some ⟨a, 0, none⟩)], .string s] w fun r w' => r = .returned (.string ⟨(titleT e p (bl s)).toArray⟩) ∧ Below a w w' := by
  have HS := Lib.hid hs
  have HA := Lib.hid ha
  clear hs
  have hbl := bl_size s
  have HBL := Lib.hid hbl
  clear hbl
  go_enter Tryd.func56, Tryd.ntmps56
  go_wp2
  go_loopw [1] (fun v1 wr => v1 = .string s ∧ ∃ (k : Nat) (e' : Bool) (p' : UInt8), wr.heap[w.heap.size]? = some (.cells #[.pointer none, .slice none 0 0] 82 (0, 0)) ∧ wr.heap[w.heap.size + 1]? = some (.stringIter s k) ∧ k ≤ s.size ∧ TitleAt wr a e' p' ∧ p'.toNat < 128 ∧ Below a w wr ∧ w.heap.size + 2 ≤ wr.heap.size ∧ Hid (titleT e p (bl s) = (bl s).take k ++ titleT e' p' ((bl s).drop k))) (fun _ wr => s.size - wr.iterPos (w.heap.size + 1))
  case atStart =>
    have hb1 : Below w.heap.size w ((w.alloc (.cells #[.pointer none, .slice none 0 0] 82)).alloc (.stringIter s 0)) := ((Below.refl _ w).alloc (Nat.le_refl _) _).alloc (by simp) _
    have hsa : (w.alloc (.cells #[.pointer none, .slice none 0 0] 82)).heap.size = w.heap.size + 1 := by simp
    have hsb : ((w.alloc (.cells #[.pointer none, .slice none 0 0] 82)).alloc (.stringIter s 0)).heap.size = w.heap.size + 2 := by simp
    refine ⟨rfl, 0, e, p, (heap_alloc_old _ _ (by simp)).trans (heap_alloc_new w _), ?_, Nat.zero_le _, h.below hb1 ha, hp, hb1.mono (by omega), Nat.le_of_eq hsb.symm, Lib.hid (by simp)⟩
    have := World.iter_heap (w.alloc (.cells #[.pointer none, .slice none 0 0] 82)) s 0
    rw [hsa] at this
    exact this
  case round =>
    obtain ⟨rfl, k, e', p', hbd, hit, hk, hti, hp', hbw, hsz, HT⟩ := hrel
    by_cases hlt : k < s.size
    · obtain ⟨r, pos2, wr2, hr2, h0, h1, hl, hle, hit2, hbw2, hsz2, hoth, hnx⟩ := iter_next (P := Tryd.prog) hit hlt hbw (by have := HA.out; omega)
      obtain ⟨b, hb, hb128, rfl, rfl⟩ := ascii_next HS.out hlt hle hr2
      have hbd2 := (hoth w.heap.size (by omega)).trans hbd
      have hti2 := hti.same (hoth a (by have := HA.out; omega)) (hoth (a + 1) (by have := HA.out; omega))
      have hszr : wr2.heap.size = wr.heap.size := hsz2
      have HM := Lib.hid (show ∀ w1 : World, w1.heap[w.heap.size + 1]? = some (.stringIter s (k + 1)) → s.size - w1.iterPos (w.heap.size + 1) < s.size - wr.iterPos (w.heap.size + 1) by
        intro w1 h; have e1 := iterPos_of hit; have e2 := iterPos_of h; omega)
      have HB := Lib.hid hb
      have HTI := Lib.hid hti2
      have hbN : (b.toNat : Int) < 128 := by omega
      clear hr2 hbw hoth hbd hit hti hb h0 h1 hl hti2 hsz2
      go_wp2_with fail
      refine (title1_any a e' p' b _ HTI.out hp' hb128).mono ?_
      rintro e w3 ⟨rfl, hti3, hu3⟩
      have hbw3 := hbw2.trans hu3.below
      have hbd3 := (hu3.block (show w.heap.size ≠ a by have := HA.out; omega) (by have := HA.out; omega)).trans hbd2
      have hit3 := (hu3.block (show w.heap.size + 1 ≠ a by have := HA.out; omega) (by have := HA.out; omega)).trans hit2
      have hsz3 : w.heap.size + 2 ≤ w3.heap.size := by rw [hu3.size]; omega
      have ho128 := outB_lt (e := e') (p := p') hb128
      have hpr := prevB_lt (e := e') hp' hb128
      have HSTEP := Lib.hid (show titleT e p (bl s) = (bl s).take k ++ (outB e' p' b :: titleT (escB e' b) (prevB e' p' b) ((bl s).drop (k + 1))) by rw [HT.out, drop_step HB.out]; rfl)
      obtain ⟨o, hoo⟩ : ∃ o, o = outB e' p' b := ⟨_, rfl⟩
      rw [← hoo] at ho128 HSTEP ⊢
      obtain ⟨e3, he3⟩ : ∃ e3, e3 = escB e' b := ⟨_, rfl⟩
      obtain ⟨p3, hp3⟩ : ∃ p3, p3 = prevB e' p' b := ⟨_, rfl⟩
      rw [← he3, ← hp3] at hti3 HSTEP
      rw [← hp3] at hpr
      clear hu3 hbw2 hbd2 hit2 hoo he3 hp3
      have n1 : ((b.toNat : Int) == 65533) = false := by rw [beq_eq_false_iff_ne]; omega
      have n2 : (b.toNat == 65533) = false := by rw [beq_eq_false_iff_ne]; omega
      by_cases heq : o = b
      · subst heq
        clear hnx
        go_wp2
        go_roundw
        case rel => exact ⟨rfl, k + 1, e3, p3, hbd3, hit3, by omega, hti3, hpr, hbw3, hsz3, Lib.hid (by rw [HSTEP.out, take_step HB.out, List.append_assoc]; rfl)⟩
        case measure => exact HM.out _ hit3
      · have n3 : ((o.toNat : Int) == (b.toNat : Int)) = false := by
          rw [beq_eq_false_iff_ne]
          intro q
          exact heq (UInt8.toNat_inj.1 (by omega))
        have n4 : (o.toNat == b.toNat) = false := by
          rw [beq_eq_false_iff_ne]
          intro q
          exact heq (UInt8.toNat_inj.1 q)
        have hrl : Lib.runeLen (b.toNat : Int) = 1 := by unfold Lib.runeLen; rw [if_neg (by omega), if_pos (by omega)]
        have HRL := Lib.hid hrl
        clear hrl heq hnx
        have HC4 := Lib.hid (show (s.size : Int) + 4 = ((s.size + 4 : Nat) : Int) by omega)
        have hk64 : (k : Int) ≤ (s.size : Int) := by omega
        have hk65 : (k : Int) + 1 ≤ (s.size : Int) := by omega
        go_wp2_with fail
        refine (Tryd.utf8_RuneLen b.toNat _).mono ?_
        rintro e w4 ⟨rfl, rfl⟩
        rw [HRL.out]
        go_wp2_with fail
        rw [HC4.out]
        refine (Tryd.Builder_Grow_fresh w.heap.size w.heap.size (s.size + 4) _ (Nat.le_refl _) hbd3 (by omega) (by omega)).mono ?_
        rintro e w5 ⟨rfl, hba5, hb5⟩
        have hti5 := hti3.below hb5 HA.out
        have hbw5 := hbw3.trans (hb5.mono (by have := HA.out; omega))
        have hsz5 : w.heap.size ≤ w5.heap.size := by have := hb5.size; omega
        clear hbd3 hit3 hti3 hbw3 hb5
        have hx6 : (s.extract 0 k).size ≤ 65536 := by rw [← bl_size, extract_bl0, List.length_take]; omega
        have HX6 := Lib.hid hx6
        clear hx6
        go_wp2_with fail
        refine (Tryd.Builder_WriteString_k w.heap.size w.heap.size [] (s.extract 0 k) _ (Or.inr (Lib.BuilderAtF.of hba5)) (by have := HX6.out; simp; omega) hsz5).mono ?_
        rintro e w6 ⟨rfl, hba6, hb6, ho6⟩
        have hti6 := hti5.others ho6 HA.out
        have hbw6 := hbw5.trans (hb6.mono (by have := HA.out; omega))
        have hsz6 : w.heap.size ≤ w6.heap.size := by have := hb6.size; omega
        have hba6' : Lib.BuilderAtF 82 5 w.heap.size w.heap.size (.pointer (some ⟨w.heap.size, 0, none⟩)) (Lib.byteCells ((bl s).take k)) w6 := by
          have e : [] ++ Lib.strCells (s.extract 0 k) = Lib.byteCells ((bl s).take k) := by
            rw [List.nil_append, ← extract_bl0]; rfl
          rw [e] at hba6
          exact hba6
        have HB6 := Lib.hid hba6'
        have ho0 : (0 : Int) ≤ (o.toNat : Int) := by omega
        clear hba5 hti5 hbw5 hb6 ho6 hba6 hba6' hsz5
        go_wp2_with fail
        refine (Tryd.Builder_WriteRune_k w.heap.size w.heap.size _ o.toNat (by omega) (by omega) _ (Or.inr HB6.out) (by rw [Lib.byteCells_length, List.length_take]; have := HBL.out; omega) hsz6).mono ?_
        rintro e w7 ⟨rfl, hba7, hb7, ho7⟩
        have hti7 := hti6.others ho7 HA.out
        have hbw7 := hbw6.trans (hb7.mono (by have := HA.out; omega))
        have hsz7 : w.heap.size ≤ w7.heap.size := by have := hb7.size; omega
        rw [runeCells_low ho128, ← Lib.byteCells_append] at hba7
        obtain ⟨CA, Cn, Cc, hcc, hc0, hcm⟩ := builder_cap hba7 (by simp)
        have HB7 := Lib.hid hba7
        have hc1 : (Cc == 0) = false := by rw [beq_eq_false_iff_ne]; omega
        have hc2 : ((Cc : Int) == 0) = false := by rw [beq_eq_false_iff_ne]; omega
        have hrn : (Lib.runeCells (o.toNat : Int)).length = 1 := by rw [runeCells_low ho128, Lib.byteCells_length]; rfl
        have HRN := Lib.hid hrn
        clear hti6 hbw6 hb7 ho7 hba7 HB6 hrn hsz6
        go_wp2_with fail
        refine (cap_any w.heap.size Cn Cc CA _ hcc).mono ?_
        rintro e w8 ⟨rfl, rfl⟩
        obtain ⟨t, ht⟩ : ∃ t : ByteArray, t = s.extract (k + 1) s.size := ⟨_, rfl⟩
        have HTE := Lib.hid ht
        have hblt : bl t = (bl s).drop (k + 1) := by rw [ht, extract_bl]
        have hts : t.size + (k + 1) = s.size := by rw [← bl_size, hblt, List.length_drop, HBL.out]; omega
        have HTS := Lib.hid (show ∀ b ∈ bl t, b.toNat < 128 from fun b hb => HS.out b (by rw [hblt] at hb; exact List.mem_of_mem_drop hb))
        have HTB := Lib.hid hblt
        obtain ⟨K2, hK2⟩ : ∃ K2, K2 = w7.heap.size := ⟨_, rfl⟩
        have HK2 := Lib.hid hK2
        obtain ⟨wz, rfl⟩ : ∃ wz : World, wz = wr := ⟨_, rfl⟩
        clear hcc hc0 hcm ht hblt hK2
        have hK27 : w.heap.size < w7.heap.size := Lib.BuilderAtF.lt HB7.out
        have HK27 := Lib.hid hK27
        clear hK27
        go_wp2_with fail
        rw [← HK2.out, ← HTE.out]
        go_loopw [11] (fun v11 wv => ∃ (j : Nat) (e2 : Bool) (p2 : UInt8) (l2 : List UInt8), Lib.BuilderAtF 82 5 w.heap.size w.heap.size (.pointer (some ⟨w.heap.size, 0, none⟩)) (Lib.byteCells l2) wv ∧ wv.heap[K2]? = some (.stringIter t j) ∧ j ≤ t.size ∧ TitleAt wv a e2 p2 ∧ p2.toNat < 128 ∧ Below a w wv ∧ w.heap.size ≤ wv.heap.size ∧ l2 ≠ [] ∧ l2.length ≤ k + 1 + j ∧ Hid (titleT e p (bl s) = l2 ++ titleT e2 p2 ((bl t).drop j))) (fun _ wv => t.size - wv.iterPos K2)
        case atStart =>
          have hb8 : Below w7.heap.size w7 (w7.alloc (.stringIter t 0)) := (Below.refl _ w7).alloc (Nat.le_refl _) _
          have hit8 := World.iter_heap w7 t 0
          rw [← HK2.out] at hit8
          refine ⟨0, e3, p3, (bl s).take k ++ [o], Lib.BuilderAtF.alloc HB7.out (.stringIter t 0), hit8, Nat.zero_le _, hti7.below hb8 (by have := HA.out; have := HK27.out; omega), hpr, hbw7.trans (hb8.mono (by have := HA.out; have := HK27.out; omega)), Nat.le_trans (Nat.le_of_lt HK27.out) hb8.size, by simp, ?_, Lib.hid ?_⟩
          · rw [List.length_append, List.length_take, HBL.out]; simp; omega
          · rw [HSTEP.out, List.drop_zero, HTB.out, List.append_assoc]; rfl
        case round =>
          obtain ⟨j, e2, p2, l2, hbA, hit, hj, hti, hp2, hbw, hszv, hl2, hll, HT2⟩ := hrel
          by_cases hlt2 : j < t.size
          · obtain ⟨r, pos2, wr2, hr2, h0, h1, hl, hle2, hit2, hbw2, hsz2, hoth, hnx⟩ := iter_next (P := Tryd.prog) hit hlt2 hbw (by have := HA.out; have := HK2.out; have := HK27.out; omega)
            obtain ⟨c, hc, hc128, rfl, rfl⟩ := ascii_next HTS.out hlt2 hle2 hr2
            have hbA2 : Lib.BuilderAtF 82 5 w.heap.size w.heap.size (.pointer (some ⟨w.heap.size, 0, none⟩)) (Lib.byteCells l2) wr2 := by
              obtain ⟨g1, u, g2, g3, g4⟩ := hbA
              refine ⟨g1, u, (hoth w.heap.size (by have := HK2.out; have := HK27.out; omega)).trans g2, ?_, g4⟩
              refine ⟨g3.1, ?_⟩
              rcases g3.2 with q | ⟨g, cap, cur, fz, q1, q2, q3, q4⟩
              · exact Or.inl q
              · refine Or.inr ⟨g, cap, cur, fz, q1, q2, (hoth g ?_).trans q3, q4⟩
                rintro rfl
                rw [hit] at q3
                cases q3
            have hti2 := hti.same (hoth a (by have := HA.out; have := HK2.out; have := HK27.out; omega)) (hoth (a + 1) (by have := HA.out; have := HK2.out; have := HK27.out; omega))
            have HM2 := Lib.hid (show ∀ w1 : World, w1.heap[K2]? = some (.stringIter t (j + 1)) → t.size - w1.iterPos K2 < t.size - wr.iterPos K2 by
              intro w1 h; have e1 := iterPos_of hit; have e2 := iterPos_of h; omega)
            have HC := Lib.hid hc
            have HTI2 := Lib.hid hti2
            have hszr2 : wr2.heap.size = wr.heap.size := hsz2
            clear hr2 hbw hoth hbA hit hti hc h0 h1 hl hti2 hsz2
            go_wp2_with fail
            refine (title1_any a e2 p2 c _ HTI2.out hp2 hc128).mono ?_
            rintro e w9 ⟨rfl, hti9, hu9⟩
            have hbA9 := Upd.builder hbA2 hu9 HA.out
            have hbw9 := hbw2.trans hu9.below
            have hit9 := (hu9.block (show K2 ≠ a by have := HA.out; have := HK2.out; have := HK27.out; omega) (by have := HA.out; have := HK2.out; have := HK27.out; omega)).trans hit2
            have hsz9 : w.heap.size ≤ w9.heap.size := by rw [hu9.size]; omega
            have ho9 := outB_lt (e := e2) (p := p2) hc128
            have hpr9 := prevB_lt (e := e2) hp2 hc128
            have HSTEP9 := Lib.hid (show titleT e p (bl s) = l2 ++ (outB e2 p2 c :: titleT (escB e2 c) (prevB e2 p2 c) ((bl t).drop (j + 1))) by rw [HT2.out, drop_step HC.out]; rfl)
            obtain ⟨o9, hoo9⟩ : ∃ o9, o9 = outB e2 p2 c := ⟨_, rfl⟩
            rw [← hoo9] at ho9 HSTEP9 ⊢
            have hn0 : (0 : Int) ≤ (o9.toNat : Int) := by omega
            have hn1 : (o9.toNat : Int) < 128 := by omega
            have hll9 : (Lib.byteCells l2).length + 1 ≤ 140737488355328 := by rw [Lib.byteCells_length]; have := hz; omega
            have HLL9 := Lib.hid hll9
            have HBA9 := Lib.hid hbA9
            clear hu9 hbw2 hit2 hoo9 hnx hbA2 hll9 hbA9
            go_wp2_with fail
            refine (Tryd.Builder_WriteByte_k w.heap.size w.heap.size _ o9.toNat _ (Or.inr HBA9.out) HLL9.out hsz9).mono ?_
            rintro e w10 ⟨rfl, hba10, hb10, ho10⟩
            have hti10 := hti9.others ho10 HA.out
            have hit10 := OthersIter hit9 ho10 (by have := HK2.out; have := HK27.out; omega)
            have hbw10 := hbw9.trans (hb10.mono (by have := HA.out; omega))
            have hsz10 : w.heap.size ≤ w10.heap.size := by have := hb10.size; omega
            have hba11 : Lib.BuilderAtF 82 5 w.heap.size w.heap.size (.pointer (some ⟨w.heap.size, 0, none⟩)) (Lib.byteCells (l2 ++ [o9])) w10 := by
              rw [Lib.byteCells_append]
              exact hba10
            clear hba10 hb10 ho10 hti9 hit9 hbw9 hsz9
            go_wp2
            go_roundw
            case rel => exact ⟨j + 1, _, _, l2 ++ [o9], hba11, hit10, by omega, hti10, hpr9, hbw10, hsz10, by simp, by rw [List.length_append]; simp; omega, Lib.hid (by rw [HSTEP9.out, List.append_assoc]; rfl)⟩
            case measure => exact HM2.out _ hit10
          · have HF := Lib.hid (show titleT e p (bl s) = l2 by
              rw [HT2.out, List.drop_of_length_le (by rw [bl_size]; omega), titleT, List.append_nil])
            have hnx : ∀ ty, (Instr.next (.pointer (some ⟨K2, 0, none⟩)) true ty).run Tryd.prog wr = _ := fun ty => Lib.run_next_end_at wr K2 t j ty hit hlt2
            have HBA := Lib.hid hbA
            clear hit hti hbA
            go_wp2_with fail
            refine (Tryd.Builder_String_f w.heap.size w.heap.size l2 _ (Or.inr HBA.out) hl2).mono ?_
            rintro e w9 ⟨rfl, _, hb9⟩
            have hbF := hbw.trans (hb9.mono (by have := HA.out; omega))
            clear hb9
            go_wp2
            go_ret
            rw [HF.out]
            exact ⟨rfl, hbF⟩
    · have hkn : k = s.size := by omega
      have HF := Lib.hid (show (⟨(titleT e p (bl s)).toArray⟩ : ByteArray) = s by
        apply bl_ext
        rw [bl_mk, HT.out, hkn, List.take_of_length_le (by rw [HBL.out]; exact Nat.le_refl _), List.drop_of_length_le (by rw [HBL.out]; exact Nat.le_refl _), titleT, List.append_nil])
      have hnx : ∀ ty, (Instr.next (.pointer (some ⟨w.heap.size + 1, 0, none⟩)) true ty).run Tryd.prog wr = _ := fun ty => Lib.run_next_end_at wr (w.heap.size + 1) s k ty hit hlt
      have hcc := cell_of_row wr w.heap.size 1 _ _ _ hbd
      clear hit hbd hti hkn
      go_wp2_with fail
      refine (cap_any w.heap.size 0 0 none _ hcc).mono ?_
      rintro e w8 ⟨rfl, rfl⟩
      go_wp2
      go_ret
      exact ⟨ret_str HF.out.symm, hbw⟩

/-- text.toTitle. -/
def titled (l : List UInt8) : List UInt8 := titleT false 32 l
set_option maxRecDepth 100000 in
set_option maxHeartbeats 2000000 in
theorem toTitle_any (s : ByteArray) (w : World) (hs : ∀ b ∈ bl s, b.toNat < 128) (hz : s.size ≤ 65536) :
    Calls Tryd.prog 40 #[.string s] w fun r w' => r = .returned (.string ⟨(titled (bl s)).toArray⟩) ∧ Below w.heap.size w w' := by
  have HS := Lib.hid hs
  clear hs
  have hb1 : Below w.heap.size w ((w.alloc (.cells #[.int .i32 32] 21)).alloc (.cells #[.bool false] 4)) := ((Below.refl _ w).alloc (Nat.le_refl _) _).alloc (by simp) _
  have hsa : (w.alloc (.cells #[.int .i32 32] 21)).heap.size = w.heap.size + 1 := by simp
  have hsb : ((w.alloc (.cells #[.int .i32 32] 21)).alloc (.cells #[.bool false] 4)).heap.size = w.heap.size + 2 := by simp
  have hti : TitleAt ((w.alloc (.cells #[.int .i32 32] 21)).alloc (.cells #[.bool false] 4)) w.heap.size false 32 := by
    refine ⟨(heap_alloc_old _ _ (by simp)).trans (heap_alloc_new w _), ?_⟩
    have := heap_alloc_new (w.alloc (.cells #[.int .i32 32] 21)) (.cells #[.bool false] 4)
    rw [hsa] at this
    exact this
  have HTI := Lib.hid hti
  have HSB := Lib.hid hsb
  have HB1 := Lib.hid hb1
  clear hb1 hsa hsb hti
  go_enter Tryd.func40, Tryd.ntmps40
  go_wp2_with fail
  refine (map_any w.heap.size false 32 s _ HTI.out (by have := HSB.out; omega) HS.out (by decide) hz).mono ?_
  rintro e w2 ⟨rfl, hb2⟩
  have hb3 := HB1.out.trans hb2
  go_wp2
  go_ret
  exact ⟨rfl, hb3⟩
def loweredB (s : ByteArray) : ByteArray := ⟨(Lib.toLowerA (bl s)).toArray⟩
set_option maxHeartbeats 2000000 in
theorem fmtLower_any (s : ByteArray) (w : World) (hs : ∀ b ∈ bl s, b.toNat < 128) (hz : s.size ≤ 65536) :
    Calls Tryd.prog 9 #[.int .i64 1, .string s] w fun r w' => r = .returned (.string (loweredB s)) ∧ Below w.heap.size w w' := by
  have HC := Lib.hid (show ∀ w, Calls Tryd.prog 23 #[.int .i64 1, .string s] w fun r w' => r = .returned (.string (loweredB s)) ∧ Below w.heap.size w w' by
    intro w
    have HL := Lib.hid (fun w => Tryd.strings_ToLower_ascii s w (by omega) (fun j b hb => hs b (List.mem_of_getElem? hb)))
    clear hs
    go_enter Tryd.func23, Tryd.ntmps23
    go_wp2_with fail
    refine (HL.out _).mono ?_
    rintro e w2 ⟨rfl, hb2⟩
    go_wp2
    go_ret
    exact ⟨rfl, hb2⟩)
  clear hs
  go_enter Tryd.func9, Tryd.ntmps9
  go_wp2_with fail
  refine (HC.out _).mono ?_
  rintro e w2 ⟨rfl, hb2⟩
  go_wp2
  go_ret
  exact ⟨rfl, hb2⟩
def titledB (s : ByteArray) : ByteArray := ⟨(titled (bl s)).toArray⟩
set_option maxHeartbeats 2000000 in
theorem fmtTitle_any (s : ByteArray) (w : World) (hs : ∀ b ∈ bl s, b.toNat < 128) (hz : s.size ≤ 65536) :
    Calls Tryd.prog 9 #[.int .i64 2, .string s] w fun r w' => r = .returned (.string (titledB s)) ∧ Below w.heap.size w w' := by
  have HC := Lib.hid (show ∀ w, Calls Tryd.prog 23 #[.int .i64 2, .string s] w fun r w' => r = .returned (.string (titledB s)) ∧ Below w.heap.size w w' by
    intro w
    have HL := Lib.hid (fun w => toTitle_any s w hs hz)
    clear hs
    go_enter Tryd.func23, Tryd.ntmps23
    go_wp2_with fail
    refine (HL.out _).mono ?_
    rintro e w2 ⟨rfl, hb2⟩
    go_wp2
    go_ret
    exact ⟨rfl, hb2⟩)
  clear hs
  go_enter Tryd.func9, Tryd.ntmps9
  go_wp2_with fail
  refine (HC.out _).mono ?_
  rintro e w2 ⟨rfl, hb2⟩
  go_wp2
  go_ret
  exact ⟨rfl, hb2⟩
end Go.Proofs.YtlclmpiocbkabaaDoor
