/- Walk of impl.listOf: which list some steps make; and of impl.ListLength. Condition: the texts hold no tabulator and no return, sizes below the bounds that are named. -/
import Derived.Test.YtdkpacgbniclhaaGreatDoorListOps
namespace Go.Proofs.YtdkpacgbniclhaaGreatDoor
open Go.RowKit

theorem ListAt.below {w w' : World} {B b : Nat} {a : Int} {s1 css : ByteArray} {sty : Value} {items : List (ByteArray × Nat)} {lv : Nat} (h : ListAt w B b a s1 css sty items lv) (hb : Below w.heap.size w w') : ListAt w' B b a s1 css sty items lv := by
  obtain ⟨hBb, v, ptrs, hblk, hown, hit⟩ := h
  refine ⟨hBb, v, ptrs, (hb.block b (blk_lt hblk)).trans hblk, own_below hown hb (Nat.le_refl _), fun k p x hp hx => ?_⟩
  obtain ⟨h1, h2⟩ := hit k p x hp hx
  exact ⟨h1, (hb.block p (blk_lt h2)).trans h2⟩
theorem infoIface : (Tryz.prog.info? 20).map (fun i => (i.zero, i.size, i.bytes)) = some (some .nilIface, 1, 16) := by kernel_rfl
theorem ifaces_len (ts : List ByteArray) : (ifaces ts).length = ts.length := by simp [ifaces]
theorem ifaces_snoc (ts : List ByteArray) (y : ByteArray) : ifaces (ts ++ [y]) = ifaces ts ++ [.iface 9 (.string y)] := by simp [ifaces]
theorem playStep2 {out : List (ByteArray × Nat)} {lv : Nat} {s : Step} (h : (s.kind == 2) = true) : playStep (out, lv) s = (out, indentL out lv) := by
  rw [play2 h]; unfold indentL; split <;> simp_all
def plainS (s : Step) : Prop := plainT s.text ∧ ∀ t ∈ s.texts, plainT t

set_option maxRecDepth 100000 in
set_option maxHeartbeats 8000000 in
theorem listOf_any (A : Option Addr) (n c : Nat) (l : List Step) (w : World) (h : StepsAt w w.heap.size A n c l) (hC : cost l ≤ 1099511627776) (hlen : l.length ≤ 1099511627776) (hpl : ∀ s ∈ l, plainS s) :
    Calls Tryz.prog 41 #[.slice A n c] w fun e w' => ∃ b, e = .returned (.pointer (some ⟨b, 0, none⟩)) ∧ ListAt w' w.heap.size b 0 ⟨#[]⟩ ⟨#[]⟩ (.pointer none) (played l) (l.foldl playStep ([], 0)).2 ∧ Below w.heap.size w w' := by
  have hm := h.small
  have HL := Lib.hid h.len
  have HC := Lib.hid hC
  have HPL := Lib.hid hpl
  have hn40 : n ≤ 1099511627776 := by rw [← h.len]; exact hlen
  clear hC hpl hlen
  obtain ⟨i0, hi, hz0, hz1, hz2⟩ := info_parts infoIface
  go_enter Tryz.func41, Tryz.ntmps41
  go_wp2
  go_loopw [13] (fun v13 wr => ∃ (k : Nat) (out : List (ByteArray × Nat)) (lv : Nat), k ≤ n ∧ v13 = .int .i64 k ∧ ListAt wr w.heap.size w.heap.size 0 ⟨#[]⟩ ⟨#[]⟩ (.pointer none) out lv ∧ Below w.heap.size w wr ∧ Hid (playK l k = (out, lv))) (fun v13 _ => n - (intOf v13).toNat)
  case atStart =>
    refine ⟨0, [], 0, Nat.zero_le _, rfl, ?_, (Below.refl _ w).alloc (Nat.le_refl _) _, Lib.hid rfl⟩
    exact ⟨Nat.le_refl _, .slice none 0 0, [], heap_alloc_new w _, World.ownsRow_nil _ _ _ _, by intro k p x hp; simp at hp⟩
  case round =>
    obtain ⟨k, out, lv, hk, rfl, hla, hbw, HP⟩ := hrel
    have hsz := hbw.size
    by_cases hlt : k < n
    · obtain ⟨ad, s, A', n', c', rfl, _, hy, hc0, hc1, hc2, hst⟩ := (h.below hbw).at_ hlt
      have hk1 : (k : Int) < (n : Int) := by omega
      have hps := play_size l k
      rw [HP.out] at hps
      have hps1 : out.length ≤ cost (l.take k) := hps.1
      have hct := cost_take l (k + 1)
      rw [cost_step hy] at hct
      have hbound : out.length + (s.texts.length + 1) ≤ 1099511627776 := by have := HC.out; omega
      have hlv : lv ≤ k := hps.2
      have hln := hst.len
      have hbn : out.length + (n' + 1) ≤ 1099511627776 := by rw [← hln]; exact hbound
      have HLN := Lib.hid hln
      have HST := Lib.hid (playK_step hy)
      rw [HP.out] at HST
      have HPS := Lib.hid (HPL.out s (List.mem_of_getElem? hy))
      have hn63 : n' ≤ 9223372036854775807 := by have := Rd.cap hst; have := Rd.small hst; omega
      clear hps hps1 hct hln hy
      have hbox := (Below.refl wr.heap.size wr).alloc (Nat.le_refl _) (.cells #[.int .i64 s.kind, .string s.text, .slice A' n' c'] 66)
      have hbA := hbw.alloc hsz (.cells #[.int .i64 s.kind, .string s.text, .slice A' n' c'] 66)
      have hlaA := hla.below hbox
      have hstA := hst.below (hbox.mono hsz)
      have hszA : w.heap.size ≤ (wr.alloc (.cells #[.int .i64 s.kind, .string s.text, .slice A' n' c'] 66)).heap.size := hbA.size
      clear hla hbw hst hbox
      cases q0 : (s.kind == 0) with
      | true =>
        have HQ := Lib.hid (play0 (st := (out, lv)) q0)
        clear hstA
        go_wp2_with fail
        refine (appendItem_any _ _ _ _ _ _ _ lv s.text _ hlaA hszA (by omega) HPS.out.1).mono ?_
        rintro e w2 ⟨rfl, hla2, hb2, _⟩
        have hbw2 := hbA.trans hb2
        clear hlaA hbA hb2
        go_wp2
        go_roundw
        case rel => exact ⟨k + 1, out ++ [(s.text, lv)], lv, by omega, by go_num, hla2, hbw2, Lib.hid (by rw [HST.out, HQ.out])⟩
        case measure => simp [intOf]; omega
      | false =>
      cases q1 : (s.kind == 1) with
      | true =>
        have HQ := Lib.hid (play1 (st := (out, lv)) q1)
        obtain ⟨wo, hwo⟩ : ∃ wo : World, wo = wr.alloc (.cells #[.int .i64 s.kind, .string s.text, .slice A' n' c'] 66) := ⟨_, rfl⟩
        go_wp2_with fail
        rw [← hwo] at hlaA hbA hstA hszA ⊢
        clear hwo
        go_loopw [6, 31] (fun v6 v31 wv => ∃ j : Nat, j ≤ n' ∧ v31 = .int .i64 j ∧ wv.ownsRow wo.heap.size 20 1 v6 j (ifaces (s.texts.take j)) ∧ Below wo.heap.size wo wv) (fun _ v31 _ => n' - (intOf v31).toNat)
        case atStart => exact ⟨0, Nat.zero_le _, rfl, World.ownsRow_nil _ _ _ _, Below.refl _ _⟩
        case round =>
          obtain ⟨j, hj, rfl, hownj, hbj⟩ := hrel
          have hszj := hbj.size
          by_cases hlt2 : j < n'
          · obtain ⟨ad2, y, rfl, _, hy2, hcy⟩ := StrsAt.at_ (StrsAt.below hstA (hbj.mono hszA)) hlt2
            have HY2 := Lib.hid hy2
            have HLA := Lib.hid hlaA
            clear hy2 hlaA
            go_wp2_with (at_builtin; go_loud (refine wpList_append_own _ rfl _ _ 102 rfl wo.heap.size 20 i0 .nilIface 1 16 Tryz.underlying102 hi hz0 hz1 hz2 rfl (by decide) _ _ _ rfl (hownj.alloc _) ⟨_, 0, none⟩ 1 1 [.iface 9 (.string y)] rfl rfl (cell_one_new _ _ _) (by intro u hu; simp at hu; subst hu; rfl) (by unfold maxLen; omega) (by omega) (by simp; omega) ?_))
            intro v' w3 hown' hgrow _
            have hb3 : Below wo.heap.size wo w3 := (hbj.alloc hszj _).grown hgrow (by simp; omega) (fun j hj => (World.ownsRow.lt hownj _ hj).1)
            have hlaA := HLA.out
            clear hgrow hownj hbj HLA
            go_wp2
            go_roundw
            case rel =>
              refine ⟨j + 1, by omega, by go_num, ?_, hb3⟩
              rw [take_step HY2.out, ifaces_snoc]
              exact hown'
            case measure => simp [intOf]; omega
          · have hjn : j = n' := by omega
            subst hjn
            rw [List.take_of_length_le (by rw [HLN.out]; exact Nat.le_refl _)] at hownj
            have hla2 := hlaA.below hbj
            have hbw2 := hbA.trans (hbj.mono hszA)
            have hov := own_base hownj hszA
            have hov2 : wr.ownsRow w.heap.size 20 1 u6 s.texts.length (ifaces s.texts) := by rw [HLN.out]; exact hov
            clear hlaA hbA hbj hownj hov hstA
            go_wp2_with fail
            refine (appendItems_any _ _ _ _ _ _ _ lv s.texts _ _ hla2 hbw2.size (by omega) HPS.out.2 hov2).mono ?_
            rintro e w3 ⟨rfl, hla3, hb3, _⟩
            have hbw3 := hbw2.trans hb3
            clear hla2 hbw2 hb3 hov2
            go_wp2
            go_roundw
            case rel => exact ⟨k + 1, out ++ s.texts.map (fun t => (t, lv)), lv, by omega, by go_num, hla3, hbw3, Lib.hid (by rw [HST.out, HQ.out])⟩
            case measure => simp [intOf]; omega
      | false =>
      cases q2 : (s.kind == 2) with
      | true =>
        have HQ := Lib.hid (playStep2 (out := out) (lv := lv) q2)
        clear hstA
        go_wp2_with fail
        refine (indent_any _ _ _ _ _ _ _ lv _ (by omega) (by omega) hlaA).mono ?_
        rintro e w2 ⟨rfl, hla2, hb2, _⟩
        have hbw2 := hbA.trans hb2
        clear hlaA hbA hb2
        go_wp2
        go_roundw
        case rel => exact ⟨k + 1, out, indentL out lv, by omega, by go_num, hla2, hbw2, Lib.hid (by rw [HST.out, HQ.out])⟩
        case measure => simp [intOf]; omega
      | false =>
      cases q3 : (s.kind == 3) with
      | true =>
        have HQ := Lib.hid (play3 (st := (out, lv)) q3)
        clear hstA
        go_wp2_with fail
        refine (unIndent_any _ _ _ _ _ _ _ lv _ (by omega) hlaA).mono ?_
        rintro e w2 ⟨rfl, hla2, hb2, _⟩
        have hbw2 := hbA.trans hb2
        clear hlaA hbA hb2
        go_wp2
        go_roundw
        case rel => exact ⟨k + 1, out, lv - 1, by omega, by go_num, hla2, hbw2, Lib.hid (by rw [HST.out, HQ.out])⟩
        case measure => simp [intOf]; omega
      | false =>
      cases q4 : (s.kind == 4) with
      | true =>
        have HQ := Lib.hid (play4 (st := (out, lv)) q4)
        clear hstA
        go_wp2_with fail
        refine (unIndentAll_any _ _ _ _ _ _ _ lv _ hlaA).mono ?_
        rintro e w2 ⟨rfl, hla2, hb2, _⟩
        have hbw2 := hbA.trans hb2
        clear hlaA hbA hb2
        go_wp2
        go_roundw
        case rel => exact ⟨k + 1, out, 0, by omega, by go_num, hla2, hbw2, Lib.hid (by rw [HST.out, HQ.out])⟩
        case measure => simp [intOf]; omega
      | false =>
      cases q5 : (s.kind == 5) with
      | true =>
        have HQ := Lib.hid (play5 (st := (out, lv)) q5)
        clear hstA
        go_wp2_with fail
        refine (reset_any _ _ _ _ _ _ _ lv _ hszA hlaA).mono ?_
        rintro e w2 ⟨rfl, hla2, hb2, _⟩
        have hbw2 := hbA.trans hb2
        clear hlaA hbA hb2
        go_wp2
        go_roundw
        case rel => exact ⟨k + 1, [], 0, by omega, by go_num, hla2, hbw2, Lib.hid (by rw [HST.out, HQ.out])⟩
        case measure => simp [intOf]; omega
      | false =>
        have HQ := Lib.hid (play6 (st := (out, lv)) q0 q1 q2 q3 q4 q5)
        clear hstA
        go_wp2
        go_roundw
        case rel => exact ⟨k + 1, out, lv, by omega, by go_num, hlaA, hbA, Lib.hid (by rw [HST.out, HQ.out])⟩
        case measure => simp [intOf]; omega
    · have HE := Lib.hid (show l.foldl playStep ([], 0) = (out, lv) by rw [← playK_all (k := k) (by rw [HL.out]; omega), HP.out])
      clear h
      go_wp2
      go_ret
      refine ⟨_, rfl, ?_, hbw⟩
      unfold played
      rw [HE.out]
      exact hla

end Go.Proofs.YtdkpacgbniclhaaGreatDoor
