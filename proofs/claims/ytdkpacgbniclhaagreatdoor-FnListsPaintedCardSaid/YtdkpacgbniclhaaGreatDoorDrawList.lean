/- Walk of the list's Render: what it makes of the items. Condition: sizes below the bounds that are named. -/
import Derived.Test.YtdkpacgbniclhaaGreatDoorDrawItem
import Derived.Deep.RegionHeld3
namespace Go.Proofs.YtdkpacgbniclhaaGreatDoor
open Go.RowKit

set_option maxHeartbeats 2000000 in
theorem listRender_keep (B b ob : Nat) (acc : List UInt8) (w : World) (h : Bld w B ob acc) :
    Calls Tryz.prog 77 #[.pointer (some ⟨b, 0, none⟩), .pointer (some ⟨ob, 0, none⟩)] w fun e w' => e = .returned (.string ⟨acc.toArray⟩) ∧ Below B w w' ∧ Lib.OthersKept 5 (some ob) w w' := by
  have hlt := h.lt
  go_enter Tryz.func77, Tryz.ntmps77
  go_wp2_with fail
  refine (bld_string B ob acc w h (by omega)).mono ?_
  rintro e w1 ⟨rfl, _, hb1, ho1⟩
  go_wp2
  go_ret
  exact ⟨rfl, hb1, ho1⟩

section
variable (B b ob q : Nat) (st : StyleV) (a : Int) (css : ByteArray) (A : Option Addr) (n c : Nat) (ptrs : List Nat) (items : List (ByteArray × Nat)) (lv : Nat) (ex : List (Nat × Obj))

set_option maxRecDepth 100000 in
set_option maxHeartbeats 16000000 in
theorem render_any (sty : Value) (a0 : Int) (s1 css0 : ByteArray) (w : World) (hB : B ≤ w.heap.size) (h : ListAt w B b a0 s1 css0 sty items lv) (hs : (sty = .pointer none ∧ st = plainStyle) ∨ ∃ q, sty = .pointer (some ⟨q, 0, none⟩) ∧ StyleAt w q st) (hst : styleSmall st) (hit : itemsSmall items) :
    Calls Tryz.prog 44 #[.pointer (some ⟨b, 0, none⟩)] w fun e w' => e = .returned (.string ⟨(drawD st items).toArray⟩) ∧ Below B w w' ∧ ∃ (q a' : Nat), ListAt w' B b a' (spacesOf st) (classOf css0) (.pointer (some ⟨q, 0, none⟩)) items lv := by
  have hsm : smallItems items := ⟨hit.1, fun x hx => ⟨by have := (hit.2 x hx).1; omega, by have := (hit.2 x hx).2; omega⟩⟩
  have hss : smallStyle st := ⟨by have := hst.2.2.2.2.2.1; omega, by have := hst.2.2.2.2.2.2.2.2; omega, by have := hst.2.2.2.2.2.2.2.1; omega⟩
  obtain ⟨cl, hce⟩ : ∃ cl, cl = classOf css0 := ⟨_, rfl⟩
  rw [← hce]
  have HCE := Lib.hid hce
  clear hce
  have HIT := Lib.hid hit
  have HSM := Lib.hid hsm
  have HSS := Lib.hid hss
  have HST := Lib.hid hst
  clear hit hsm hst hss
  go_enter Tryz.func44, Tryz.ntmps44
  go_wp2_with fail
  refine (init_any B b a0 s1 css0 sty st items lv w hB h hs HSS.out HSM.out).mono ?_
  rintro e w1 ⟨rfl, q, a', ha', hla, hsq, hb1⟩
  rw [← HCE.out] at hla
  clear h hs
  obtain ⟨v, ptrs, hlv⟩ := hla.name
  have hBw1 : B ≤ w1.heap.size := by have := hb1.size; omega
  have hbox := (Below.refl w1.heap.size w1).alloc (Nat.le_refl _) (.cells #[.pointer none, .slice none 0 0] 106)
  have hlv2 := hlv.below hbox
  obtain ⟨A, c, rfl, _⟩ := own_rd hlv.2.2.1
  have hbA := hb1.trans (hbox.mono hBw1)
  have hblk : (w1.alloc (.cells #[.pointer none, .slice none 0 0] 106)).heap[w1.heap.size]? = some (.cells #[.pointer none, .slice none 0 0] 106 (0, 0)) := heap_alloc_new w1 _
  obtain ⟨n, hn⟩ : ∃ n, n = items.length := ⟨_, rfl⟩
  have hn2 : n ≤ 2000 := by rw [hn]; exact HIT.out.1
  have HN := Lib.hid hn
  rw [← HN.out] at hlv2 hlv
  have HLV := Lib.hid hlv
  have HSQ := Lib.hid hsq
  have HBOX := Lib.hid hbox
  clear hn hla hlv hbox hsq
  have k0 : (w1.alloc (.cells #[.pointer none, .slice none 0 0] 106)).cell? ⟨b, 0, none⟩ = some (.int .i64 a') := blk_cell hlv2.2.1 0
  have ha2 : a' ≤ 281474976710656 := by omega
  go_wp2_with fail
  refine (bld_grow w1.heap.size w1.heap.size a' _ (Nat.le_refl _) hblk (by simp) ha2).mono ?_
  rintro e w3 ⟨rfl, hb3, hbel3⟩
  have hlv3 : ListV w3 B b a' (spacesOf st) cl (.pointer (some ⟨q, 0, none⟩)) (.slice A n c) ptrs items lv := HLV.out.below (HBOX.out.trans hbel3)
  have hsq3 : StyleAt w3 q st := HSQ.out.below (HBOX.out.trans hbel3)
  have hs3 : RS w w3 B b w1.heap.size q st a' cl (.slice A n c) ptrs items lv [] [] := ⟨⟨hlv3, hb3.base hBw1, hbA.trans (hbel3.mono hBw1)⟩, hsq3, by intro y hy; simp at hy⟩
  obtain ⟨ob, hob⟩ : ∃ ob, ob = w1.heap.size := ⟨_, rfl⟩
  rw [← hob] at hs3 ⊢
  have j3 : w3.cell? ⟨b, 3, none⟩ = some (.slice A n c) := blk_cell hlv3.2.1 3
  clear k0 hblk hb3 hbel3 hlv2 hlv3 hsq3 HLV HSQ HBOX hob
  go_wp2_with fail
  go_loopw [19] (fun v19 wr => ∃ (k : Nat) (acc' : List UInt8), k ≤ n ∧ v19 = .int .i64 k ∧ RS w wr B b ob q st a' cl (.slice A n c) ptrs items lv [] acc' ∧ Hid (acc' = mapCat (itemD st items) 0 (items.take k)) ∧ acc'.length ≤ k * 600000000) (fun v19 _ => n - (intOf v19).toNat)
  case atStart => exact ⟨0, [], Nat.zero_le _, rfl, hs3, Lib.hid (by simp [mapCat]), by simp⟩
  case round =>
    obtain ⟨k, acc', hk, rfl, hr, HA, hal⟩ := hrel
    clear hs3 j3
    have hbnd : k * 600000000 ≤ 2000 * 600000000 := Nat.mul_le_mul (by omega) (Nat.le_refl _)
    by_cases hlt : k < n
    · obtain ⟨g, cap, p, x, hv0, hx, hp, hcg, hc0, _, _⟩ := hr.hs.list.item (k := k) (by rw [← HN.out]; exact hlt)
      rw [← HN.out] at hv0
      injection hv0 with e1 e2 e3
      subst e1 e3
      clear e2
      have hxb := HIT.out.2 x (List.mem_of_getElem? hx)
      obtain ⟨tx, l⟩ := x
      have hx1 : tx.size ≤ 1000 := hxb.1
      have hx2 : l ≤ 300 := hxb.2
      have hki : (k : Int) < (n : Int) := by omega
      have HX := Lib.hid hx
      have HP := Lib.hid hp
      obtain ⟨hv, hhv⟩ : ∃ hv, hv = hintOf items k l := ⟨_, rfl⟩
      have ht : ((k : Int) == 0) = hv.top := by
        rw [hhv]; show _ = decide (k = 0)
        rw [Bool.eq_iff_iff, beq_iff_eq, decide_eq_true_iff]; omega
      have hl : (!moreB l (items.drop (k + 1))) = hv.last := by rw [hhv]; rfl
      have hbt : ((k : Int) == ((n - 1 : Nat) : Int)) = hv.bottom := by
        rw [hhv]; show _ = decide (k + 1 = items.length)
        rw [Bool.eq_iff_iff, beq_iff_eq, decide_eq_true_iff, ← HN.out]; omega
      have hon : hv.only = (hv.first && hv.last) := by rw [hhv]; rfl
      have HHV := Lib.hid hhv
      have hwn : IntKind.i64.wrap ((n : Int) - 1) = ((n - 1 : Nat) : Int) := by rw [IntKind.wrap_i64]; omega
      clear hxb hx hp hhv
      have hmore := more_any B b n c (some ⟨g, 0, none⟩) a' (spacesOf st) cl (.pointer (some ⟨q, 0, none⟩)) ptrs items lv k l wr.drew hr.drew.hs.list HN.out hn2 (by omega) (by omega)
      obtain ⟨mb, hmb⟩ : ∃ mb, mb = moreB l (items.drop (k + 1)) := ⟨_, rfl⟩
      rw [← hmb] at hmore hl
      have HMB := Lib.hid hmb
      have HTOP := Lib.hid ht
      have HLAST := Lib.hid hl
      have HBOT := Lib.hid hbt
      clear hmb ht hl hbt
      go_upto_region 7 with (fail)
      go_cut [6] (fun v6 wx => v6 = .pointer (some ⟨wr.heap.size, 0, none⟩) ∧ Below wr.heap.size wr wx ∧ wx.heap[wr.heap.size]? = some (.cells #[.bool hv.top, .bool hv.first, .bool false, .bool hv.last, .bool hv.bottom] 112 (0, 0)))
      case first =>
        have j3 : wr.cell? ⟨b, 3, none⟩ = some (.slice (some ⟨g, 0, none⟩) n c) := hr.c 3
        have hltb : b < wr.heap.size := block_lt j3
        have hltp : p < wr.heap.size := block_lt hc0
        have hjA : ∀ o : Obj, (wr.alloc o).cell? ⟨b, 3, none⟩ = some (.slice (some ⟨g, 0, none⟩) n c) := fun o => (World.cell?_alloc_lt wr o ⟨b, 3, none⟩ hltb).trans j3
        have hpA : ∀ o : Obj, (wr.alloc o).cell? ⟨p, 0, none⟩ = some (.int .i64 l) := fun o => (World.cell?_alloc_lt wr o ⟨p, 0, none⟩ hltp).trans hc0
        have hmoreA : ∀ o : Obj, Calls Tryz.prog 75 #[.pointer (some ⟨b, 0, none⟩), .int .i64 l, .int .i64 k] (wr.drew.alloc o) (fun e w' => e = .returned (.bool mb) ∧ wr.drew.alloc o = w') := fun o => by
          have := more_any B b n c (some ⟨g, 0, none⟩) a' (spacesOf st) cl (.pointer (some ⟨q, 0, none⟩)) ptrs items lv k l (wr.drew.alloc o) (hr.drew.hs.list.below ((Below.refl _ _).alloc (Nat.le_refl _) _)) HN.out hn2 (by omega) (by omega)
          rw [← HMB.out] at this
          exact this
        have HMA := Lib.hid hmoreA
        have FIN := Lib.hid (show ∀ b0 b1 b3 b4 : Bool, b0 = hv.top → b1 = hv.first → b3 = hv.last → b4 = hv.bottom → Below wr.heap.size wr (wr.alloc (.cells #[.bool b0, .bool b1, .bool false, .bool b3, .bool b4] 112)).drew ∧ (wr.alloc (.cells #[.bool b0, .bool b1, .bool false, .bool b3, .bool b4] 112)).drew.heap[wr.heap.size]? = some (.cells #[.bool hv.top, .bool hv.first, .bool false, .bool hv.last, .bool hv.bottom] 112 (0, 0)) from by
          intro b0 b1 b3 b4 e0 e1 e3 e4
          subst e0 e1 e3 e4
          exact ⟨((Below.refl _ wr).alloc (Nat.le_refl _) _).drew, heap_alloc_new wr _⟩)
        have HJA := Lib.hid hjA
        have HPA := Lib.hid hpA
        clear hmoreA hjA hpA
        by_cases hk0 : k = 0
        · have hfirst : hv.first = true := by rw [HHV.out, hk0]; rfl
          have hk0b : ((k : Int) == 0) = true := by rw [beq_iff_eq]; omega
          have H0 := Lib.hid (show true = hv.top from hk0b.symm.trans HTOP.out)
          have H1 := Lib.hid (show true = hv.first from hfirst.symm)
          have HK0 := Lib.hid hk0
          clear hfirst hk0
          go_wp2_with fail
          refine wp_region_held_drew (S := fun w' => w'.cell? ⟨b, 3, none⟩ = some (.slice (some ⟨g, 0, none⟩) n c) ∧ w'.cell? ⟨p, 0, none⟩ = some (.int .i64 l)) (by kernel_rfl) ⟨j3, hc0⟩ (fun hHeld => ?_)
          refine wpAnyH_take (i := 0) (oi := { dst := some 24, op := Op.move (Operand.tmp 4), type := 3, pos := "render.go:23", after := #[], guard := none }) (v := ?va1) rfl (by kernel_rfl) (by kernel_rfl) (by kernel_rfl) (fun _ _ _ h => h) (Or.inl ⟨by rfl, ?hy1⟩) (by assumption) ?re1
          case hy1 => (intro w hSw; (try dsimp only at hSw); go_simp; try with_reducible rfl)
          try simp only [Act.put, List.setIfInBounds_toArray, List.set_cons_zero, List.set_cons_succ]
          refine wpAnyH_take (i := 1) (oi := { dst := some 25, op := Op.binOp BinOp.eql 3 (Operand.tmp 24) (Operand.const (Value.int IntKind.i64 0)) 3, type := 4, pos := "render.go:23", after := #[{ on := 0, ground := Ground.data }], guard := none }) (v := ?va2) rfl (by kernel_rfl) (by kernel_rfl) (by kernel_rfl) (fun _ _ _ h => h) (Or.inl ⟨by rfl, ?hy2⟩) (by assumption) ?re2
          case hy2 => (intro w hSw; (try dsimp only at hSw); go_simp; try with_reducible rfl)
          try simp only [Act.put, List.setIfInBounds_toArray, List.set_cons_zero, List.set_cons_succ]
          refine wpAnyH_take (i := 2) (oi := { dst := some 26, op := Op.move (Operand.tmp 4), type := 3, pos := "render.go:23", after := #[], guard := none }) (v := ?va3) rfl (by kernel_rfl) (by kernel_rfl) (by kernel_rfl) (fun _ _ _ h => h) (Or.inl ⟨by rfl, ?hy3⟩) (by assumption) ?re3
          case hy3 => (intro w hSw; (try dsimp only at hSw); go_simp; try with_reducible rfl)
          try simp only [Act.put, List.setIfInBounds_toArray, List.set_cons_zero, List.set_cons_succ]
          refine wpAnyH_take (i := 3) (oi := { dst := some 27, op := Op.binOp BinOp.eql 3 (Operand.tmp 26) (Operand.const (Value.int IntKind.i64 0)) 3, type := 4, pos := "render.go:23", after := #[{ on := 2, ground := Ground.data }], guard := none }) (v := ?va4) rfl (by kernel_rfl) (by kernel_rfl) (by kernel_rfl) (fun _ _ _ h => h) (Or.inl ⟨by rfl, ?hy4⟩) (by assumption) ?re4
          case hy4 => (intro w hSw; (try dsimp only at hSw); go_simp; try with_reducible rfl)
          try simp only [Act.put, List.setIfInBounds_toArray, List.set_cons_zero, List.set_cons_succ]
          refine wpAnyH_take (i := 4) (oi := { dst := some 28, op := Op.move (Operand.tmp 27), type := 4, pos := "render.go:23", after := #[{ on := 3, ground := Ground.data }], guard := none }) (v := ?va5) rfl (by kernel_rfl) (by kernel_rfl) (by kernel_rfl) (fun _ _ _ h => h) (Or.inl ⟨by rfl, ?hy5⟩) (by assumption) ?re5
          case hy5 => (intro w hSw; (try dsimp only at hSw); go_simp; try with_reducible rfl)
          try simp only [Act.put, List.setIfInBounds_toArray, List.set_cons_zero, List.set_cons_succ]
          refine wpAnyH_take (i := 5) (oi := { dst := some 29, op := Op.move (Operand.tmp 5), type := 108, pos := "render.go:23", after := #[{ on := 4, ground := Ground.guard }], guard := some (4, false) }) (v := undef) rfl (by kernel_rfl) (by kernel_rfl) (by kernel_rfl) (fun _ _ _ h => h) (Or.inr ⟨by rfl, rfl⟩) (by assumption) ?_
          try simp only [Act.put, List.setIfInBounds_toArray, List.set_cons_zero, List.set_cons_succ]
          refine wpAnyH_take (i := 6) (oi := { dst := some 30, op := Op.nilCheck (Operand.tmp 29), type := 0, pos := "render.go:23", after := #[{ on := 5, ground := Ground.data }, { on := 4, ground := Ground.guard }], guard := some (4, false) }) (v := undef) rfl (by kernel_rfl) (by kernel_rfl) (by kernel_rfl) (fun _ _ _ h => h) (Or.inr ⟨by rfl, rfl⟩) (by assumption) ?_
          try simp only [Act.put, List.setIfInBounds_toArray, List.set_cons_zero, List.set_cons_succ]
          refine wpAnyH_take (i := 7) (oi := { dst := some 31, op := Op.fieldAddr 110 (Operand.tmp 30) 0, type := 0, pos := "render.go:23", after := #[{ on := 6, ground := Ground.data }, { on := 4, ground := Ground.guard }], guard := some (4, false) }) (v := undef) rfl (by kernel_rfl) (by kernel_rfl) (by kernel_rfl) (fun _ _ _ h => h) (Or.inr ⟨by rfl, rfl⟩) (by assumption) ?_
          try simp only [Act.put, List.setIfInBounds_toArray, List.set_cons_zero, List.set_cons_succ]
          refine wpAnyH_take (i := 8) (oi := { dst := some 32, op := Op.load 3 (Operand.tmp 31), type := 3, pos := "render.go:23", after := #[{ on := 7, ground := Ground.data }, { on := 4, ground := Ground.guard }], guard := some (4, false) }) (v := undef) rfl (by kernel_rfl) (by kernel_rfl) (by kernel_rfl) (fun _ _ _ h => h) (Or.inr ⟨by rfl, rfl⟩) (by assumption) ?_
          try simp only [Act.put, List.setIfInBounds_toArray, List.set_cons_zero, List.set_cons_succ]
          refine wpAnyH_take (i := 9) (oi := { dst := some 33, op := Op.move (Operand.tmp 0), type := 72, pos := "render.go:23", after := #[{ on := 4, ground := Ground.guard }], guard := some (4, false) }) (v := undef) rfl (by kernel_rfl) (by kernel_rfl) (by kernel_rfl) (fun _ _ _ h => h) (Or.inr ⟨by rfl, rfl⟩) (by assumption) ?_
          try simp only [Act.put, List.setIfInBounds_toArray, List.set_cons_zero, List.set_cons_succ]
          refine wpAnyH_take (i := 10) (oi := { dst := some 34, op := Op.nilCheck (Operand.tmp 33), type := 0, pos := "render.go:23", after := #[{ on := 9, ground := Ground.data }, { on := 4, ground := Ground.guard }], guard := some (4, false) }) (v := undef) rfl (by kernel_rfl) (by kernel_rfl) (by kernel_rfl) (fun _ _ _ h => h) (Or.inr ⟨by rfl, rfl⟩) (by assumption) ?_
          try simp only [Act.put, List.setIfInBounds_toArray, List.set_cons_zero, List.set_cons_succ]
          refine wpAnyH_take (i := 11) (oi := { dst := some 35, op := Op.fieldAddr 100 (Operand.tmp 34) 3, type := 0, pos := "render.go:23", after := #[{ on := 10, ground := Ground.data }, { on := 4, ground := Ground.guard }], guard := some (4, false) }) (v := undef) rfl (by kernel_rfl) (by kernel_rfl) (by kernel_rfl) (fun _ _ _ h => h) (Or.inr ⟨by rfl, rfl⟩) (by assumption) ?_
          try simp only [Act.put, List.setIfInBounds_toArray, List.set_cons_zero, List.set_cons_succ]
          refine wpAnyH_take (i := 12) (oi := { dst := some 36, op := Op.load 97 (Operand.tmp 35), type := 97, pos := "render.go:23", after := #[{ on := 11, ground := Ground.data }, { on := 4, ground := Ground.guard }], guard := some (4, false) }) (v := undef) rfl (by kernel_rfl) (by kernel_rfl) (by kernel_rfl) (fun _ _ _ h => h) (Or.inr ⟨by rfl, rfl⟩) (by assumption) ?_
          try simp only [Act.put, List.setIfInBounds_toArray, List.set_cons_zero, List.set_cons_succ]
          refine wpAnyH_take (i := 13) (oi := { dst := some 37, op := Op.move (Operand.tmp 4), type := 3, pos := "render.go:23", after := #[{ on := 4, ground := Ground.guard }], guard := some (4, false) }) (v := undef) rfl (by kernel_rfl) (by kernel_rfl) (by kernel_rfl) (fun _ _ _ h => h) (Or.inr ⟨by rfl, rfl⟩) (by assumption) ?_
          try simp only [Act.put, List.setIfInBounds_toArray, List.set_cons_zero, List.set_cons_succ]
          refine wpAnyH_take (i := 14) (oi := { dst := some 38, op := Op.binOp BinOp.sub 3 (Operand.tmp 37) (Operand.const (Value.int IntKind.i64 1)) 3, type := 3, pos := "render.go:23", after := #[{ on := 13, ground := Ground.data }, { on := 4, ground := Ground.guard }], guard := some (4, false) }) (v := undef) rfl (by kernel_rfl) (by kernel_rfl) (by kernel_rfl) (fun _ _ _ h => h) (Or.inr ⟨by rfl, rfl⟩) (by assumption) ?_
          try simp only [Act.put, List.setIfInBounds_toArray, List.set_cons_zero, List.set_cons_succ]
          refine wpAnyH_take (i := 15) (oi := { dst := some 39, op := Op.indexAddr 97 (Operand.tmp 36) (Operand.tmp 38), type := 0, pos := "render.go:23", after := #[{ on := 12, ground := Ground.data }, { on := 14, ground := Ground.data }, { on := 4, ground := Ground.guard }], guard := some (4, false) }) (v := undef) rfl (by kernel_rfl) (by kernel_rfl) (by kernel_rfl) (fun _ _ _ h => h) (Or.inr ⟨by rfl, rfl⟩) (by assumption) ?_
          try simp only [Act.put, List.setIfInBounds_toArray, List.set_cons_zero, List.set_cons_succ]
          refine wpAnyH_take (i := 16) (oi := { dst := some 40, op := Op.load 108 (Operand.tmp 39), type := 108, pos := "render.go:23", after := #[{ on := 15, ground := Ground.data }, { on := 4, ground := Ground.guard }], guard := some (4, false) }) (v := undef) rfl (by kernel_rfl) (by kernel_rfl) (by kernel_rfl) (fun _ _ _ h => h) (Or.inr ⟨by rfl, rfl⟩) (by assumption) ?_
          try simp only [Act.put, List.setIfInBounds_toArray, List.set_cons_zero, List.set_cons_succ]
          refine wpAnyH_take (i := 17) (oi := { dst := some 41, op := Op.nilCheck (Operand.tmp 40), type := 0, pos := "render.go:23", after := #[{ on := 16, ground := Ground.data }, { on := 4, ground := Ground.guard }], guard := some (4, false) }) (v := undef) rfl (by kernel_rfl) (by kernel_rfl) (by kernel_rfl) (fun _ _ _ h => h) (Or.inr ⟨by rfl, rfl⟩) (by assumption) ?_
          try simp only [Act.put, List.setIfInBounds_toArray, List.set_cons_zero, List.set_cons_succ]
          refine wpAnyH_take (i := 18) (oi := { dst := some 42, op := Op.fieldAddr 110 (Operand.tmp 41) 0, type := 0, pos := "render.go:23", after := #[{ on := 17, ground := Ground.data }, { on := 4, ground := Ground.guard }], guard := some (4, false) }) (v := undef) rfl (by kernel_rfl) (by kernel_rfl) (by kernel_rfl) (fun _ _ _ h => h) (Or.inr ⟨by rfl, rfl⟩) (by assumption) ?_
          try simp only [Act.put, List.setIfInBounds_toArray, List.set_cons_zero, List.set_cons_succ]
          refine wpAnyH_take (i := 19) (oi := { dst := some 43, op := Op.load 3 (Operand.tmp 42), type := 3, pos := "render.go:23", after := #[{ on := 18, ground := Ground.data }, { on := 4, ground := Ground.guard }], guard := some (4, false) }) (v := undef) rfl (by kernel_rfl) (by kernel_rfl) (by kernel_rfl) (fun _ _ _ h => h) (Or.inr ⟨by rfl, rfl⟩) (by assumption) ?_
          try simp only [Act.put, List.setIfInBounds_toArray, List.set_cons_zero, List.set_cons_succ]
          refine wpAnyH_take (i := 20) (oi := { dst := some 44, op := Op.binOp BinOp.gtr 3 (Operand.tmp 32) (Operand.tmp 43) 3, type := 4, pos := "render.go:23", after := #[{ on := 8, ground := Ground.data }, { on := 19, ground := Ground.data }, { on := 4, ground := Ground.guard }], guard := some (4, false) }) (v := undef) rfl (by kernel_rfl) (by kernel_rfl) (by kernel_rfl) (fun _ _ _ h => h) (Or.inr ⟨by rfl, rfl⟩) (by assumption) ?_
          try simp only [Act.put, List.setIfInBounds_toArray, List.set_cons_zero, List.set_cons_succ]
          refine wpAnyH_take (i := 21) (oi := { dst := some 45, op := Op.pick (Operand.tmp 28) (Operand.const (Value.bool true)) (Operand.tmp 44), type := 4, pos := "render.go:23", after := #[{ on := 4, ground := Ground.data }, { on := 20, ground := Ground.data }], guard := none }) (v := ?va6) rfl (by kernel_rfl) (by kernel_rfl) (by kernel_rfl) (fun _ _ _ h => h) (Or.inl ⟨by rfl, ?hy6⟩) (by assumption) ?re6
          case hy6 => (intro w hSw; (try dsimp only at hSw); go_simp; try with_reducible rfl)
          try simp only [Act.put, List.setIfInBounds_toArray, List.set_cons_zero, List.set_cons_succ]
          refine wpAnyH_take (i := 22) (oi := { dst := some 46, op := Op.move (Operand.tmp 0), type := 72, pos := "render.go:23", after := #[], guard := none }) (v := ?va7) rfl (by kernel_rfl) (by kernel_rfl) (by kernel_rfl) (fun _ _ _ h => h) (Or.inl ⟨by rfl, ?hy7⟩) (by assumption) ?re7
          case hy7 => (intro w hSw; (try dsimp only at hSw); go_simp; try with_reducible rfl)
          try simp only [Act.put, List.setIfInBounds_toArray, List.set_cons_zero, List.set_cons_succ]
          refine wpAnyH_take (i := 23) (oi := { dst := some 47, op := Op.move (Operand.tmp 5), type := 108, pos := "render.go:23", after := #[], guard := none }) (v := ?va8) rfl (by kernel_rfl) (by kernel_rfl) (by kernel_rfl) (fun _ _ _ h => h) (Or.inl ⟨by rfl, ?hy8⟩) (by assumption) ?re8
          case hy8 => (intro w hSw; (try dsimp only at hSw); go_simp; try with_reducible rfl)
          try simp only [Act.put, List.setIfInBounds_toArray, List.set_cons_zero, List.set_cons_succ]
          refine wpAnyH_take (i := 24) (oi := { dst := some 48, op := Op.nilCheck (Operand.tmp 47), type := 0, pos := "render.go:23", after := #[{ on := 23, ground := Ground.data }], guard := none }) (v := ?va9) rfl (by kernel_rfl) (by kernel_rfl) (by kernel_rfl) (fun _ _ _ h => h) (Or.inl ⟨by rfl, ?hy9⟩) (by assumption) ?re9
          case hy9 => (intro w hSw; (try dsimp only at hSw); go_simp; try with_reducible rfl)
          try simp only [Act.put, List.setIfInBounds_toArray, List.set_cons_zero, List.set_cons_succ]
          refine wpAnyH_take (i := 25) (oi := { dst := some 49, op := Op.fieldAddr 110 (Operand.tmp 48) 0, type := 0, pos := "render.go:23", after := #[{ on := 24, ground := Ground.data }], guard := none }) (v := ?va10) rfl (by kernel_rfl) (by kernel_rfl) (by kernel_rfl) (fun _ _ _ h => h) (Or.inl ⟨by rfl, ?hy10⟩) (by assumption) ?re10
          case hy10 => (intro w hSw; (try dsimp only at hSw); go_simp; try with_reducible rfl)
          try simp only [Act.put, List.setIfInBounds_toArray, List.set_cons_zero, List.set_cons_succ]
          refine wpAnyH_take (i := 26) (oi := { dst := some 50, op := Op.load 3 (Operand.tmp 49), type := 3, pos := "render.go:23", after := #[{ on := 25, ground := Ground.data }], guard := none }) (v := ?va11) rfl (by kernel_rfl) (by kernel_rfl) (by kernel_rfl) (fun _ _ _ h => h) (Or.inl ⟨by rfl, ?hy11⟩) (by assumption) ?re11
          case hy11 => (intro w hSw; (try dsimp only at hSw); go_simp; try with_reducible rfl)
          try simp only [Act.put, List.setIfInBounds_toArray, List.set_cons_zero, List.set_cons_succ]
          refine wpAnyH_take (i := 27) (oi := { dst := some 51, op := Op.move (Operand.tmp 4), type := 3, pos := "render.go:23", after := #[], guard := none }) (v := ?va12) rfl (by kernel_rfl) (by kernel_rfl) (by kernel_rfl) (fun _ _ _ h => h) (Or.inl ⟨by rfl, ?hy12⟩) (by assumption) ?re12
          case hy12 => (intro w hSw; (try dsimp only at hSw); go_simp; try with_reducible rfl)
          try simp only [Act.put, List.setIfInBounds_toArray, List.set_cons_zero, List.set_cons_succ]
          refine wpAnyH_take (i := 30) (oi := { dst := some 54, op := Op.move (Operand.tmp 4), type := 3, pos := "render.go:23", after := #[], guard := none }) (v := ?va13) rfl (by kernel_rfl) (by kernel_rfl) (by kernel_rfl) (fun _ _ _ h => h) (Or.inl ⟨by rfl, ?hy13⟩) (by assumption) ?re13
          case hy13 => (intro w hSw; (try dsimp only at hSw); go_simp; try with_reducible rfl)
          try simp only [Act.put, List.setIfInBounds_toArray, List.set_cons_zero, List.set_cons_succ]
          refine wpAnyH_take (i := 31) (oi := { dst := some 55, op := Op.move (Operand.tmp 0), type := 72, pos := "render.go:23", after := #[], guard := none }) (v := ?va14) rfl (by kernel_rfl) (by kernel_rfl) (by kernel_rfl) (fun _ _ _ h => h) (Or.inl ⟨by rfl, ?hy14⟩) (by assumption) ?re14
          case hy14 => (intro w hSw; (try dsimp only at hSw); go_simp; try with_reducible rfl)
          try simp only [Act.put, List.setIfInBounds_toArray, List.set_cons_zero, List.set_cons_succ]
          refine wpAnyH_take (i := 32) (oi := { dst := some 56, op := Op.nilCheck (Operand.tmp 55), type := 0, pos := "render.go:23", after := #[{ on := 31, ground := Ground.data }], guard := none }) (v := ?va15) rfl (by kernel_rfl) (by kernel_rfl) (by kernel_rfl) (fun _ _ _ h => h) (Or.inl ⟨by rfl, ?hy15⟩) (by assumption) ?re15
          case hy15 => (intro w hSw; (try dsimp only at hSw); go_simp; try with_reducible rfl)
          try simp only [Act.put, List.setIfInBounds_toArray, List.set_cons_zero, List.set_cons_succ]
          refine wpAnyH_take (i := 33) (oi := { dst := some 57, op := Op.fieldAddr 100 (Operand.tmp 56) 3, type := 0, pos := "render.go:23", after := #[{ on := 32, ground := Ground.data }], guard := none }) (v := ?va16) rfl (by kernel_rfl) (by kernel_rfl) (by kernel_rfl) (fun _ _ _ h => h) (Or.inl ⟨by rfl, ?hy16⟩) (by assumption) ?re16
          case hy16 => (intro w hSw; (try dsimp only at hSw); go_simp; try with_reducible rfl)
          try simp only [Act.put, List.setIfInBounds_toArray, List.set_cons_zero, List.set_cons_succ]
          refine wpAnyH_take (i := 34) (oi := { dst := some 58, op := Op.load 97 (Operand.tmp 57), type := 97, pos := "render.go:23", after := #[{ on := 33, ground := Ground.data }], guard := none }) (v := ?va17) rfl (by kernel_rfl) (by kernel_rfl) (by kernel_rfl) (fun _ _ _ h => h) (Or.inl ⟨by rfl, ?hy17⟩) (by assumption) ?re17
          case hy17 => (intro w hSw; (try dsimp only at hSw); go_simp; try with_reducible rfl)
          try simp only [Act.put, List.setIfInBounds_toArray, List.set_cons_zero, List.set_cons_succ]
          refine wpAnyH_take (i := 35) (oi := { dst := some 59, op := Op.call { callee := Callee.builtin Builtin.len, args := #[Operand.tmp 58], argTypes := #[97] }, type := 3, pos := "render.go:23", after := #[{ on := 34, ground := Ground.data }], guard := none }) (v := ?va18) rfl (by kernel_rfl) (by kernel_rfl) (by kernel_rfl) (fun _ _ _ h => h) (Or.inl ⟨by rfl, ?hy18⟩) (by assumption) ?re18
          case hy18 => (intro w hSw; (try dsimp only at hSw); go_simp; try with_reducible rfl)
          try simp only [Act.put, List.setIfInBounds_toArray, List.set_cons_zero, List.set_cons_succ]
          refine wpAnyH_take (i := 36) (oi := { dst := some 60, op := Op.binOp BinOp.sub 3 (Operand.tmp 59) (Operand.const (Value.int IntKind.i64 1)) 3, type := 3, pos := "render.go:23", after := #[{ on := 35, ground := Ground.data }], guard := none }) (v := ?va19) rfl (by kernel_rfl) (by kernel_rfl) (by kernel_rfl) (fun _ _ _ h => h) (Or.inl ⟨by rfl, ?hy19⟩) (by assumption) ?re19
          case hy19 => (intro w hSw; (try dsimp only at hSw); go_simp; try with_reducible rfl)
          try simp only [Act.put, List.setIfInBounds_toArray, List.set_cons_zero, List.set_cons_succ]
          refine wpAnyH_take (i := 37) (oi := { dst := some 61, op := Op.binOp BinOp.eql 3 (Operand.tmp 54) (Operand.tmp 60) 3, type := 4, pos := "render.go:23", after := #[{ on := 30, ground := Ground.data }, { on := 36, ground := Ground.data }], guard := none }) (v := ?va20) rfl (by kernel_rfl) (by kernel_rfl) (by kernel_rfl) (fun _ _ _ h => h) (Or.inl ⟨by rfl, ?hy20⟩) (by assumption) ?re20
          case hy20 => (intro w hSw; (try dsimp only at hSw); go_simp; try with_reducible rfl)
          try simp only [Act.put, List.setIfInBounds_toArray, List.set_cons_zero, List.set_cons_succ]
          refine wpAnyH_ready (rs := [28, 39]) (by kernel_rfl) (by simp) ?_
          refine AllReadyH.cons (o := { dst := some 52, op := Op.call { callee := Callee.value (Operand.func 75), args := #[Operand.tmp 46, Operand.tmp 50, Operand.tmp 51], argTypes := #[72, 3, 3] }, type := 4, pos := "render.go:26", after := #[{ on := 22, ground := Ground.data }, { on := 26, ground := Ground.data }, { on := 27, ground := Ground.data }, { on := 4, ground := Ground.chain }], guard := none }) rfl (fun K hK => ?_) ?_
          · go_simp
            refine hmore.mono ?_
            rintro e w1 ⟨rfl, rfl⟩
            refine hK.out _ _ ⟨j3, hc0⟩ (fun hHeld => ?_)
            clear hK K
            try simp only [Act.put, List.setIfInBounds_toArray, List.set_cons_zero, List.set_cons_succ]
            refine wpAnyH_take (i := 29) (oi := { dst := some 53, op := Op.unOp UnOp.not 4 (Operand.tmp 52), type := 4, pos := "render.go:23", after := #[{ on := 28, ground := Ground.data }], guard := none }) (v := ?va21) rfl (by kernel_rfl) (by kernel_rfl) (by kernel_rfl) (fun _ _ _ h => h) (Or.inl ⟨by rfl, ?hy21⟩) (by assumption) ?re21
            case hy21 => (intro w hSw; (try dsimp only at hSw); go_simp; try with_reducible rfl)
            try simp only [Act.put, List.setIfInBounds_toArray, List.set_cons_zero, List.set_cons_succ]
            refine wpAnyH_take (i := 38) (oi := { dst := some 62, op := Op.build 112 #[(0, Operand.tmp 25), (1, Operand.tmp 45), (3, Operand.tmp 53), (4, Operand.tmp 61)], type := 112, pos := "render.go:23", after := #[{ on := 1, ground := Ground.data }, { on := 21, ground := Ground.data }, { on := 29, ground := Ground.data }, { on := 37, ground := Ground.data }], guard := none }) (v := ?va22) rfl (by kernel_rfl) (by kernel_rfl) (by kernel_rfl) (fun _ _ _ h => h) (Or.inl ⟨by rfl, ?hy22⟩) (by assumption) ?re22
            case hy22 => (intro w hSw; (try dsimp only at hSw); go_simp; try with_reducible rfl)
            try simp only [Act.put, List.setIfInBounds_toArray, List.set_cons_zero, List.set_cons_succ]
            refine wpAnyH_ready (rs := [39]) (by kernel_rfl) (by simp) ?_
            refine AllReadyH.cons (o := { dst := some 6, op := Op.alloc 112, type := 0, pos := "render.go:23", after := #[], guard := none }) rfl (fun K hK => ?_) AllReadyH.nil
            go_simp
            refine hK.out _ _ ⟨HJA.out _, HPA.out _⟩ (fun hHeld => ?_)
            clear hK K
            try simp only [Act.put, List.setIfInBounds_toArray, List.set_cons_zero, List.set_cons_succ]
            refine wpAnyH_ready (rs := [40]) (by kernel_rfl) (by simp) ?_
            refine AllReadyH.cons rfl (fun K hK => ?_) AllReadyH.nil
            go_simp
            refine hK.out _ _ ⟨HJA.out _, HPA.out _⟩ (fun hHeld => ?_)
            clear hK K
            try simp only [Act.put, List.setIfInBounds_toArray, List.set_cons_zero, List.set_cons_succ]
            refine wpAnyH_done (by kernel_rfl) ?_ _
            go_wp2_with fail
            go_meet
            exact ⟨rfl, FIN.out _ _ _ _ H0.out H1.out HLAST.out HBOT.out⟩
          · refine AllReadyH.cons (o := { dst := some 6, op := Op.alloc 112, type := 0, pos := "render.go:23", after := #[], guard := none }) rfl (fun K hK => ?_) AllReadyH.nil
            go_simp
            refine hK.out _ _ ⟨HJA.out _, HPA.out _⟩ (fun hHeld => ?_)
            clear hK K
            try simp only [Act.put, List.setIfInBounds_toArray, List.set_cons_zero, List.set_cons_succ]
            refine wpAnyH_ready (rs := [28]) (by kernel_rfl) (by simp) ?_
            refine AllReadyH.cons (o := { dst := some 52, op := Op.call { callee := Callee.value (Operand.func 75), args := #[Operand.tmp 46, Operand.tmp 50, Operand.tmp 51], argTypes := #[72, 3, 3] }, type := 4, pos := "render.go:26", after := #[{ on := 22, ground := Ground.data }, { on := 26, ground := Ground.data }, { on := 27, ground := Ground.data }, { on := 4, ground := Ground.chain }], guard := none }) rfl (fun K hK => ?_) AllReadyH.nil
            go_simp
            refine (HMA.out _).mono ?_
            rintro e w1 ⟨rfl, rfl⟩
            refine hK.out _ _ ⟨HJA.out _, HPA.out _⟩ (fun hHeld => ?_)
            clear hK K
            try simp only [Act.put, List.setIfInBounds_toArray, List.set_cons_zero, List.set_cons_succ]
            refine wpAnyH_take (i := 29) (oi := { dst := some 53, op := Op.unOp UnOp.not 4 (Operand.tmp 52), type := 4, pos := "render.go:23", after := #[{ on := 28, ground := Ground.data }], guard := none }) (v := ?va23) rfl (by kernel_rfl) (by kernel_rfl) (by kernel_rfl) (fun _ _ _ h => h) (Or.inl ⟨by rfl, ?hy23⟩) (by assumption) ?re23
            case hy23 => (intro w hSw; (try dsimp only at hSw); go_simp; try with_reducible rfl)
            try simp only [Act.put, List.setIfInBounds_toArray, List.set_cons_zero, List.set_cons_succ]
            refine wpAnyH_take (i := 38) (oi := { dst := some 62, op := Op.build 112 #[(0, Operand.tmp 25), (1, Operand.tmp 45), (3, Operand.tmp 53), (4, Operand.tmp 61)], type := 112, pos := "render.go:23", after := #[{ on := 1, ground := Ground.data }, { on := 21, ground := Ground.data }, { on := 29, ground := Ground.data }, { on := 37, ground := Ground.data }], guard := none }) (v := ?va24) rfl (by kernel_rfl) (by kernel_rfl) (by kernel_rfl) (fun _ _ _ h => h) (Or.inl ⟨by rfl, ?hy24⟩) (by assumption) ?re24
            case hy24 => (intro w hSw; (try dsimp only at hSw); go_simp; try with_reducible rfl)
            try simp only [Act.put, List.setIfInBounds_toArray, List.set_cons_zero, List.set_cons_succ]
            refine wpAnyH_ready (rs := [40]) (by kernel_rfl) (by simp) ?_
            refine AllReadyH.cons rfl (fun K hK => ?_) AllReadyH.nil
            go_simp
            refine hK.out _ _ ⟨HJA.out _, HPA.out _⟩ (fun hHeld => ?_)
            clear hK K
            try simp only [Act.put, List.setIfInBounds_toArray, List.set_cons_zero, List.set_cons_succ]
            refine wpAnyH_done (by kernel_rfl) ?_ _
            go_wp2_with fail
            go_meet
            exact ⟨rfl, FIN.out _ _ _ _ H0.out H1.out HLAST.out HBOT.out⟩
        · obtain ⟨g2, cap2, p2, y, hv2, hy, hp2, hcg2, hcy, _, _⟩ := hr.hs.list.item (k := k - 1) (by rw [← HN.out]; omega)
          rw [← HN.out] at hv2
          injection hv2 with e1 e2 e3
          injection e1 with e1
          injection e1 with e1
          subst e1
          clear e2 e3
          have hk0b : ((k : Int) == 0) = false := by rw [beq_eq_false_iff_ne]; omega
          have hwk : IntKind.i64.wrap ((k : Int) - 1) = ((k - 1 : Nat) : Int) := by rw [IntKind.wrap_i64]; omega
          have hfirst : decide (y.2 < l) = hv.first := by
            rw [HHV.out]
            obtain ⟨j, rfl⟩ : ∃ j, k = j + 1 := ⟨k - 1, by omega⟩
            show _ = firstB items (j + 1) l
            unfold firstB
            rw [Nat.add_sub_cancel] at hy
            simp only [hy]
          have H1 := Lib.hid hfirst
          have H0 := Lib.hid (show false = hv.top from hk0b.symm.trans HTOP.out)
          have hk1 : (0 : Int) ≤ ((k - 1 : Nat) : Int) := by omega
          have hk2 : ((k - 1 : Nat) : Int) < (n : Int) := by omega
          clear hfirst hy hp2
          go_wp2_with fail
          have hgA : ∀ o : Obj, (wr.alloc o).cell? ⟨g, k - 1, none⟩ = some (.pointer (some ⟨p2, 0, none⟩)) := fun o => (World.cell?_alloc_lt wr o ⟨g, k - 1, none⟩ (block_lt hcg2)).trans hcg2
          have hyA : ∀ o : Obj, (wr.alloc o).cell? ⟨p2, 0, none⟩ = some (.int .i64 y.2) := fun o => (World.cell?_alloc_lt wr o ⟨p2, 0, none⟩ (block_lt hcy)).trans hcy
          have HGA := Lib.hid hgA
          have HYA := Lib.hid hyA
          clear hgA hyA
          go_region_held3 (fun w' => w'.cell? ⟨b, 3, none⟩ = some (.slice (some ⟨g, 0, none⟩) n c) ∧ w'.cell? ⟨p, 0, none⟩ = some (.int .i64 l) ∧ w'.cell? ⟨g, k - 1, none⟩ = some (.pointer (some ⟨p2, 0, none⟩)) ∧ w'.cell? ⟨p2, 0, none⟩ = some (.int .i64 y.2)) (first | exact ⟨j3, hc0, hcg2, hcy⟩ | exact ⟨HJA.out _, HPA.out _, HGA.out _, HYA.out _⟩)
            (first | (go_at_call 75; (first | (refine hmore.mono ?_; rintro e w1 ⟨rfl, rfl⟩) | (refine (HMA.out _).mono ?_; rintro e w1 ⟨rfl, rfl⟩))))
          all_goals (go_wp2_with fail; go_meet; exact ⟨rfl, FIN.out _ _ _ _ H0.out H1.out HLAST.out HBOT.out⟩)
      case rest =>
        obtain ⟨rfl, hbx, hhb⟩ := hcut
        obtain ⟨wq, rfl⟩ : ∃ x : World, x = wc := ⟨_, rfl⟩
        have hh1 : wq.cell? ⟨wr.heap.size, 1, none⟩ = some (.bool hv.first) := blk_cell hhb 1
        have hh3 : wq.cell? ⟨wr.heap.size, 3, none⟩ = some (.bool hv.last) := blk_cell hhb 3
        have hf2 := blk_frozen hhb 2
        have HON := Lib.hid hon
        clear hon
        go_upto_region 8 with (fail)
        go_cut [68] (fun v68 wx => v68 = .bool hv.only ∧ wq = wx)
        case first =>
          cases hf : hv.first with
          | false =>
            rw [hf] at hh1
            have HO := Lib.hid (show hv.only = false by rw [HON.out, hf]; rfl)
            go_wp2_with fail
            go_meet
            exact ⟨by rw [HO.out], rfl⟩
          | true =>
            rw [hf] at hh1
            have HO := Lib.hid (show hv.only = hv.last by rw [HON.out, hf]; rfl)
            go_wp2_with fail
            go_meet
            exact ⟨by rw [HO.out], rfl⟩
        case rest =>
        obtain ⟨rfl, rfl⟩ := hcut
        go_upto_if 68 with (fail)
        go_cut [] (fun wx => Below wr.heap.size wr wx ∧ wx.heap[wr.heap.size]? = some (.cells hv.cells 112 (0, 0)))
        case first =>
          have hh2 : wq.cell? ⟨wr.heap.size, 2, none⟩ = some (.bool false) := blk_cell hhb 2
          cases hO : hv.only with
          | false =>
            have HO := Lib.hid hO
            go_wp2_with fail
            go_meet
            refine ⟨hbx, ?_⟩
            unfold HintV.cells
            rw [HO.out]
            exact hhb
          | true =>
            have HO := Lib.hid hO
            go_wp2_with fail
            go_meet
            refine ⟨hbx.setCell (p := ⟨wr.heap.size, 2, none⟩) (Nat.le_refl _) _, ?_⟩
            unfold HintV.cells
            rw [HO.out]
            exact heap_setCell_same wq wr.heap.size 2 _ _ (.bool true) hhb
        case rest =>
          obtain ⟨hby, hhb2⟩ := hcut
          obtain ⟨wp, rfl⟩ : ∃ x : World, x = wc := ⟨_, rfl⟩
          clear hbx hhb hh1 hh3 hf2
          have h2 := hr.below hby
          have hh0 : wp.cell? ⟨wr.heap.size, 0, none⟩ = some (.bool hv.top) := blk_cell hhb2 0
          have hh1 : wp.cell? ⟨wr.heap.size, 1, none⟩ = some (.bool hv.first) := blk_cell hhb2 1
          have hh2 : wp.cell? ⟨wr.heap.size, 2, none⟩ = some (.bool hv.only) := blk_cell hhb2 2
          have hh3 : wp.cell? ⟨wr.heap.size, 3, none⟩ = some (.bool hv.last) := blk_cell hhb2 3
          have hh4 : wp.cell? ⟨wr.heap.size, 4, none⟩ = some (.bool hv.bottom) := blk_cell hhb2 4
          have hitem := drawItem_any B b ob q st a' cl (some ⟨g, 0, none⟩) n c ptrs items lv [] k p (tx, l) acc' wp HST.out HN.out hn2 HX.out HP.out hx1 hx2 h2.more (by omega)
          dsimp only at hitem
          rw [← HHV.out] at hitem
          unfold HintV.val at hitem
          have HITEM := Lib.hid hitem
          clear hr hby hhb2 hitem
          go_wp2_with fail
          refine HITEM.out.mono ?_
          rintro e w5 ⟨acc2, rfl, h3, HB, hbl⟩
          have h4 := h2.of h3
          clear h2 h3 hh0 hh1 hh2 hh3 hh4
          go_wp2
          go_roundw
          case rel => exact ⟨k + 1, acc2, by omega, by go_num, h4, Lib.hid (by rw [mapCat_step _ HX.out, HB.out, HA.out]), by omega⟩
          case measure => simp [intOf]; omega
    · have hki : ¬ (k : Int) < (n : Int) := by omega
      have HF := Lib.hid (show acc' = drawD st items by rw [HA.out, List.take_of_length_le (by rw [← HN.out]; omega)]; rfl)
      go_wp2_with fail
      refine (listRender_keep B b _ _ _ hr.hs.bld).mono ?_
      rintro e w6 ⟨rfl, hb6, ho6⟩
      obtain ⟨cs, hkd⟩ := hr.hs.bld.kind
      have hl6 := (hr.hs.list.others hkd ho6)
      rw [HN.out] at hl6
      have hb7 := hr.hs.kept.trans hb6
      go_wp2
      go_ret
      exact ⟨ret_str (by rw [HF.out]), hb7, q, a', hl6.at_⟩
end
end Go.Proofs.YtdkpacgbniclhaaGreatDoor
