/- Walks of the parser's methods that read codes: parse256ColorSequence, process256ColorSequences, processRegularCodes, splitAndTrimCodes, ParseSeq. Conditions: as each says. -/
import Derived.Test.YtlclmpiocbkabaaGreatDoorParser
import Derived.Test.YtlclmpiocbkabaaGreatDoorTSplit
namespace Go.Proofs.YtlclmpiocbkabaaGreatDoor
open Go.RowKit
set_option linter.unusedVariables false

def got256 (r : Option (Int × Int)) (v b : Int) (ok : Bool) : Prop := match r with
  | some x => ok = true ∧ v = x.1 ∧ b = x.2
  | none => ok = false
theorem add_pos' (a : Addr) (m : Nat) : a.add (m + 1) = ⟨a.block, a.off + (m + 1), none⟩ := by unfold Addr.add; rw [if_neg (by omega)]
theorem p256_short {cs : List (List UInt8)} {i : Nat} (h : cs.length ≤ i + 2) : p256 cs i = none := by
  unfold p256
  rw [List.getElem?_eq_none h]
  cases cs[i]? <;> cases cs[i + 1]? <;> rfl
theorem p256_at {cs : List (List UInt8)} {i : Nat} {a b c : List UInt8} (h0 : cs[i]? = some a) (h1 : cs[i + 1]? = some b) (h2 : cs[i + 2]? = some c) :
    p256 cs i = match atoiL a with
    | none => none
    | some n => if n = 38 ∨ n = 48 then (match atoiL b with
        | none => none
        | some m => if m = 5 then (match atoiL c with
            | none => none
            | some v => if 0 ≤ v ∧ v ≤ 255 then some (v, if n = 38 then 1000 else 2000) else none) else none) else none := by
  unfold p256
  rw [h0, h1, h2]
  rfl

set_option maxRecDepth 100000 in
set_option maxHeartbeats 8000000 in
theorem p256_any (p : Value) (A : Option Addr) (n c : Nat) (ss : List ByteArray) (j : Nat) (w : World) (h : StrsAt w w.heap.size A n c ss) (hs : ∀ s ∈ ss, s.size ≤ 1099511627776) (hn : n ≤ 1099511627776) (hj : j ≤ n) :
    Calls Tryz.prog 63 #[p, .slice A n c, .int .i64 j] w fun e w' => (∃ v b ok, e = .returned (.tuple #[.int .i64 v, .int .i64 b, .bool ok]) ∧ got256 (p256 (ss.map bl) j) v b ok) ∧ Below w.heap.size w w' := by
  have hlen := h.len
  by_cases hsh : n ≤ j + 2
  · have HP := Lib.hid (p256_short (cs := ss.map bl) (i := j) (by rw [List.length_map, hlen]; exact hsh))
    have h2 : (n : Int) ≤ (j : Int) + 2 := by omega
    clear h
    go_enter Tryz.func63, Tryz.ntmps63
    go_wp2
    go_ret3
    exact ⟨⟨_, _, _, rfl, by rw [HP.out]; rfl⟩, Below.refl _ _⟩
  · obtain ⟨ad, x0, rfl, hab, hx0, hc0⟩ := h.at_ (k := j) (by omega)
    obtain ⟨_, x1, e1, _, hx1, hc1⟩ := h.at_ (k := j + 1) (by omega)
    injection e1 with e1
    subst e1
    obtain ⟨_, x2, e2, _, hx2, hc2⟩ := h.at_ (k := j + 2) (by omega)
    injection e2 with e2
    subst e2
    have HP := Lib.hid (p256_at (cs := ss.map bl) (i := j) (by rw [List.getElem?_map, hx0]; rfl) (by rw [List.getElem?_map, hx1]; rfl) (by rw [List.getElem?_map, hx2]; rfl))
    have z0 := hs x0 (List.mem_of_getElem? hx0)
    have z1 := hs x1 (List.mem_of_getElem? hx1)
    have z2 := hs x2 (List.mem_of_getElem? hx2)
    have h2 : ¬ (n : Int) ≤ (j : Int) + 2 := by omega
    have h3 : (j : Int) < (n : Int) := by omega
    have h4 : (j : Int) + 1 < (n : Int) := by omega
    have h5 : (j : Int) + 2 < (n : Int) := by omega
    have hcell : ∀ (q : Addr) (w' : World) (u : Value), q.block < w.heap.size → w.cell? q = some u → Below w.heap.size w w' → w'.cell? q = some u := fun q w' u hq hcq hb => (hb.cell hq).trans hcq
    rw [add_pos'] at hc1
    rw [show j + 2 = (j + 1) + 1 from rfl, add_pos'] at hc2
    clear h hx0 hx1 hx2 hs
    go_enter Tryz.func63, Tryz.ntmps63
    go_wp2_with fail
    refine (atoi_any x0 _ z0).mono ?_
    rintro e w1 ⟨⟨v0, er0, rfl, hA0⟩, hb1⟩
    have hB1 := hb1
    have hc1' := hcell ⟨ad.block, _, none⟩ _ _ hab hc1 hB1
    cases r0 : atoiL (bl x0) with
    | none =>
      rw [r0] at hA0
      obtain ⟨q, u, rfl⟩ := hA0
      go_wp2
      go_ret3
      exact ⟨⟨_, _, _, rfl, by rw [HP.out, r0]; rfl⟩, hB1⟩
    | some m0 =>
      rw [r0] at hA0
      obtain ⟨rfl, rfl⟩ := hA0
      have HP1 := HP
      unfold Hid at HP1
      rw [r0] at HP1
      dsimp only at HP1
      by_cases k0 : v0 = 38 ∨ v0 = 48
      · rw [if_pos k0] at HP1
        have hbase : ∃ bs : Int, bs = (if v0 = 38 then 1000 else 2000) := ⟨_, rfl⟩
        obtain ⟨bs, hbs⟩ := hbase
        rw [← hbs] at HP1
        have HPH := Lib.hid HP1
        clear HP1
        rcases k0 with k0 | k0
        · subst k0
          have hbs2 : bs = 1000 := by rw [hbs]; rfl
          subst hbs2
          clear hbs
          go_wp2_with fail
          refine (atoi_any x1 _ z1).mono ?_
          rintro e w2 ⟨⟨v1, er1, rfl, hA1⟩, hb2⟩
          have hB2 := hB1.trans (hb2.mono hB1.size)
          have hc2' := hcell ⟨ad.block, _, none⟩ _ _ hab hc2 hB2
          cases r1 : atoiL (bl x1) with
          | none =>
            rw [r1] at hA1
            obtain ⟨q, u, rfl⟩ := hA1
            go_wp2
            go_ret3
            exact ⟨⟨_, _, _, rfl, by rw [HPH.out, r1]; rfl⟩, hB2⟩
          | some m1 =>
            rw [r1] at hA1
            obtain ⟨rfl, rfl⟩ := hA1
            by_cases k1 : v1 = 5
            · subst k1
              go_wp2_with fail
              refine (atoi_any x2 _ z2).mono ?_
              rintro e w3 ⟨⟨v2, er2, rfl, hA2⟩, hb3⟩
              have hB3 := hB2.trans (hb3.mono hB2.size)
              cases r2 : atoiL (bl x2) with
              | none =>
                rw [r2] at hA2
                obtain ⟨q, u, rfl⟩ := hA2
                go_wp2
                go_ret3
                exact ⟨⟨_, _, _, rfl, by rw [HPH.out, r1, r2]; rfl⟩, hB3⟩
              | some m2 =>
                rw [r2] at hA2
                obtain ⟨rfl, rfl⟩ := hA2
                by_cases k2 : 0 ≤ v2
                · by_cases k3 : v2 ≤ 255
                  · go_wp2
                    go_ret3
                    exact ⟨⟨_, _, _, rfl, by rw [HPH.out, r1, r2]; dsimp only; rw [if_pos rfl, if_pos ⟨k2, k3⟩]; exact ⟨rfl, rfl, rfl⟩⟩, hB3⟩
                  · go_wp2
                    go_ret3
                    exact ⟨⟨_, _, _, rfl, by rw [HPH.out, r1, r2]; dsimp only; rw [if_pos rfl, if_neg (by omega)]; rfl⟩, hB3⟩
                · go_wp2
                  go_ret3
                  exact ⟨⟨_, _, _, rfl, by rw [HPH.out, r1, r2]; dsimp only; rw [if_pos rfl, if_neg (by omega)]; rfl⟩, hB3⟩
            · go_wp2
              go_ret3
              exact ⟨⟨_, _, _, rfl, by rw [HPH.out, r1]; dsimp only; rw [if_neg k1]; rfl⟩, hB2⟩
        · subst k0
          have hbs2 : bs = 2000 := by rw [hbs]; rfl
          subst hbs2
          clear hbs
          go_wp2_with fail
          refine (atoi_any x1 _ z1).mono ?_
          rintro e w2 ⟨⟨v1, er1, rfl, hA1⟩, hb2⟩
          have hB2 := hB1.trans (hb2.mono hB1.size)
          have hc2' := hcell ⟨ad.block, _, none⟩ _ _ hab hc2 hB2
          cases r1 : atoiL (bl x1) with
          | none =>
            rw [r1] at hA1
            obtain ⟨q, u, rfl⟩ := hA1
            go_wp2
            go_ret3
            exact ⟨⟨_, _, _, rfl, by rw [HPH.out, r1]; rfl⟩, hB2⟩
          | some m1 =>
            rw [r1] at hA1
            obtain ⟨rfl, rfl⟩ := hA1
            by_cases k1 : v1 = 5
            · subst k1
              go_wp2_with fail
              refine (atoi_any x2 _ z2).mono ?_
              rintro e w3 ⟨⟨v2, er2, rfl, hA2⟩, hb3⟩
              have hB3 := hB2.trans (hb3.mono hB2.size)
              cases r2 : atoiL (bl x2) with
              | none =>
                rw [r2] at hA2
                obtain ⟨q, u, rfl⟩ := hA2
                go_wp2
                go_ret3
                exact ⟨⟨_, _, _, rfl, by rw [HPH.out, r1, r2]; rfl⟩, hB3⟩
              | some m2 =>
                rw [r2] at hA2
                obtain ⟨rfl, rfl⟩ := hA2
                by_cases k2 : 0 ≤ v2
                · by_cases k3 : v2 ≤ 255
                  · go_wp2
                    go_ret3
                    exact ⟨⟨_, _, _, rfl, by rw [HPH.out, r1, r2]; dsimp only; rw [if_pos rfl, if_pos ⟨k2, k3⟩]; exact ⟨rfl, rfl, rfl⟩⟩, hB3⟩
                  · go_wp2
                    go_ret3
                    exact ⟨⟨_, _, _, rfl, by rw [HPH.out, r1, r2]; dsimp only; rw [if_pos rfl, if_neg (by omega)]; rfl⟩, hB3⟩
                · go_wp2
                  go_ret3
                  exact ⟨⟨_, _, _, rfl, by rw [HPH.out, r1, r2]; dsimp only; rw [if_pos rfl, if_neg (by omega)]; rfl⟩, hB3⟩
            · go_wp2
              go_ret3
              exact ⟨⟨_, _, _, rfl, by rw [HPH.out, r1]; dsimp only; rw [if_neg k1]; rfl⟩, hB2⟩
      · rw [if_neg k0] at HP1
        have HPH := Lib.hid HP1
        have k38 : ¬ v0 = 38 := fun e => k0 (Or.inl e)
        have k48 : ¬ v0 = 48 := fun e => k0 (Or.inr e)
        clear HP1 k0
        go_wp2
        go_ret3
        exact ⟨⟨_, _, _, rfl, by rw [HPH.out]; rfl⟩, hB1⟩

/-! ### what stays -/
theorem Only.below {w w1 w2 : World} {p b : Nat} (h : Only w w1 p b) (hb : Below w1.heap.size w1 w2) : Only w w2 p b :=
  ⟨hb.os.trans h.os, hb.tape.trans h.tape, hb.output.trans h.output, Nat.le_trans h.size hb.size, fun k hk h1 h2 => (hb.block k (Nat.lt_of_lt_of_le hk h.size)).trans (h.block k hk h1 h2)⟩
theorem Only.then {w w1 w2 : World} {p b b' : Nat} (h : Only w w1 p b) (g : Only w1 w2 p b') (hb : b' = b ∨ w.heap.size ≤ b') : Only w w2 p b :=
  ⟨g.os.trans h.os, g.tape.trans h.tape, g.output.trans h.output, Nat.le_trans h.size g.size, fun k hk h1 h2 => (g.block k (Nat.lt_of_lt_of_le hk h.size) h1 (hb.elim (fun e => e ▸ h2) (fun e => by omega))).trans (h.block k hk h1 h2)⟩
theorem Only.idx {w w1 w2 : World} {p b bi : Nat} (h : Only w w1 p b) (g : w1.grownBy w2 (some bi)) (hb : w.heap.size ≤ bi) : Only w w2 p b :=
  ⟨g.os.trans h.os, g.tape.trans h.tape, g.output.trans h.output, Nat.le_trans h.size g.size, fun k hk h1 h2 => (g.block k (Nat.lt_of_lt_of_le hk h.size) (fun e => by injection e with e; omega)).trans (h.block k hk h1 h2)⟩
theorem MAt.below {w w' : World} {p b : Nat} {i : Bool} {k : Int} {vb : Value} {l : List Int} (h : MAt w p b i k vb l) (hb : Below w.heap.size w w') : MAt w' p b i k vb l :=
  ⟨(hb.block p h.lt.1).trans h.blk, h.set.below hb h.lt.2⟩
theorem MAt.other {w w' : World} {p b bi : Nat} {i : Bool} {k : Int} {vb : Value} {l : List Int} (h : MAt w p b i k vb l) (g : w.grownBy w' (some bi)) (h1 : bi ≠ p) (h2 : bi ≠ b) : MAt w' p b i k vb l :=
  ⟨(g.block p h.lt.1 (fun e => h1 (by injection e with e; exact e.symm))).trans h.blk, h.set.kept g (fun e => h2 (by injection e with e; exact e.symm))⟩
theorem SetAt.only {w w' : World} {p b bi : Nat} {l : List Int} (h : SetAt w bi l) (ho : Only w w' p b) (h1 : bi ≠ p) (h2 : bi ≠ b) : SetAt w' bi l := h.same (ho.block bi h.lt h1 h2)
/-- A slice of texts that lies in neither block. -/
def Off (A : Option Addr) (p b : Nat) : Prop := ∀ ad, A = some ad → ad.block ≠ p ∧ ad.block ≠ b
theorem StrsAt.only {w w' : World} {p b n c : Nat} {A : Option Addr} {ss : List ByteArray} (h : StrsAt w w.heap.size A n c ss) (ho : Only w w' p b) (hA : Off A p b) : StrsAt w' w'.heap.size A n c ss :=
  ⟨Rd.len h, Rd.cap h, Rd.small h, fun hn => by
    obtain ⟨ad, e, hb, hc⟩ := Rd.cells h hn
    have := ho.size
    exact ⟨ad, e, by omega, fun j u hu => (World.cell?_of_block (w := w) (by rw [add_block]; exact ho.block ad.block hb (hA ad e).1 (hA ad e).2)).trans (hc j u hu)⟩⟩

theorem proc256_some {cs : List (List UInt8)} {f i : Nat} {st : List Int × List Int} {v b : Int} (hi : i < cs.length) (h : p256 cs i = some (v, b)) :
    proc256 cs (f + 1) i st = proc256 cs f (i + 3) (clearStd (decide (b = 1000)) (set256 b v st.1), insC (i + 2) (insC (i + 1) (insC i st.2))) := by
  rw [proc256, if_pos hi, h]
theorem proc256_none {cs : List (List UInt8)} {f i : Nat} {st : List Int × List Int} (hi : i < cs.length) (h : p256 cs i = none) : proc256 cs (f + 1) i st = proc256 cs f (i + 1) st := by
  rw [proc256, if_pos hi, h]
theorem proc256_done {cs : List (List UInt8)} {f i : Nat} {st : List Int × List Int} (hi : ¬ i < cs.length) : proc256 cs f i st = st := by
  cases f with
  | zero => rfl
  | succ f => rw [proc256, if_neg hi]
theorem p256_range {cs : List (List UInt8)} {i : Nat} {v b : Int} (h : p256 cs i = some (v, b)) : 0 ≤ v ∧ v ≤ 255 ∧ (b = 1000 ∨ b = 2000) ∧ i + 2 < cs.length := by
  have hlt : i + 2 < cs.length := by
    rcases Nat.lt_or_ge (i + 2) cs.length with q | q
    · exact q
    · rw [p256_short q] at h; cases h
  rw [p256_at (List.getElem?_eq_getElem (by omega)) (List.getElem?_eq_getElem (by omega)) (List.getElem?_eq_getElem hlt)] at h
  split at h
  · cases h
  · split at h
    · split at h
      · cases h
      · split at h
        · split at h
          · cases h
          · split at h
            · next hv =>
              injection h with h
              injection h with h1 h2
              subst h1
              refine ⟨hv.1, hv.2, ?_, hlt⟩
              rw [← h2]
              split
              · exact Or.inl rfl
              · exact Or.inr rfl
            · cases h
        · cases h
    · cases h

set_option maxRecDepth 100000 in
set_option maxHeartbeats 8000000 in
theorem proc256_any (p b : Nat) (i : Bool) (k : Int) (vb : Value) (l : List Int) (A : Option Addr) (n c : Nat) (ss : List ByteArray) (w : World) (h : MAt w p b i k vb l) (hs : StrsAt w w.heap.size A n c ss) (hA : Off A p b) (hz : ∀ s ∈ ss, s.size ≤ 1099511627776) (hn : n ≤ 1000000) (hl : l.length ≤ 1000000) :
    Calls Tryz.prog 50 #[.pointer (some ⟨p, 0, none⟩), .slice A n c] w fun e w' => ∃ bi, e = .returned (.map (some bi)) ∧ w.heap.size ≤ bi ∧ MAt w' p b i k vb (proc256 (ss.map bl) n 0 (l, [])).1 ∧ SetAt w' bi (proc256 (ss.map bl) n 0 (l, [])).2 ∧ Only w w' p b := by
  have hmm := @run_makeMap Tryz.prog
  have hlen := hs.len
  have hm0 : MAt (w.alloc (.map #[] 0)) p b i k vb l := h.below ((Below.refl _ w).alloc (Nat.le_refl _) _)
  have hp := h.lt
  go_enter Tryz.func50, Tryz.ntmps50
  go_wp2
  go_loopw [6] (fun v6 wr => ∃ (j f : Nat) (st : List Int × List Int), v6 = .int .i64 j ∧ j ≤ n ∧ n - j ≤ f ∧ MAt wr p b i k vb st.1 ∧ SetAt wr w.heap.size st.2 ∧ Only w wr p b ∧ st.1.length ≤ l.length + j ∧ st.2.length ≤ j ∧ Hid (proc256 (ss.map bl) n 0 (l, []) = proc256 (ss.map bl) f j st)) (fun v6 _ => n - (intOf v6).toNat)
  case atStart => exact ⟨0, n, (l, []), rfl, Nat.zero_le _, by omega, hm0, SetAt.made w, (Only.refl w p b).below ((Below.refl _ w).alloc (Nat.le_refl _) _), by simp, by simp, rfl⟩
  case round =>
    obtain ⟨j, f, st, rfl, hj, hf, hm, hbi, ho, hl1, hl2, HP⟩ := hrel
    by_cases hjn : j < n
    · obtain ⟨f, rfl⟩ : ∃ g, f = g + 1 := ⟨f - 1, by omega⟩
      have hst := hs.only ho hA
      go_wp2_with fail
      refine (p256_any _ A n c ss j _ hst hz (by omega) (by omega)).mono ?_
      rintro e w1 ⟨⟨v, bs, ok, rfl, hg⟩, hb1⟩
      have hm1 := hm.below hb1
      have hbi1 := hbi.below hb1 hbi.lt
      have ho1 := ho.below hb1
      cases hr : p256 (ss.map bl) j with
      | none =>
        rw [hr] at hg
        obtain rfl : ok = false := hg
        have HN := Lib.hid (HP.out.trans (proc256_none (by rw [List.length_map, hlen]; exact hjn) hr))
        clear hm hbi ho hst hb1 hr HP
        go_wp2
        exact ⟨⟨j + 1, f, st, rfl, by omega, by omega, hm1, hbi1, ho1, by omega, by omega, HN⟩, by simp [intOf]; omega⟩
      | some x =>
        obtain ⟨xv, xb⟩ := x
        rw [hr] at hg
        obtain ⟨rfl, e1, e2⟩ := hg
        dsimp only at e1 e2
        subst e1 e2
        obtain ⟨q1, q2, q3, q4⟩ := p256_range hr
        rw [List.length_map, hlen] at q4
        have HN := Lib.hid (HP.out.trans (proc256_some (by rw [List.length_map, hlen]; exact hjn) hr))
        have hbd : decide (bs = 1000) = (bs == 1000) := by by_cases e : bs = 1000 <;> simp [e]
        clear hm hbi ho hst hb1 hr HP
        go_wp2_with fail
        refine (set256_any p b i k vb st.1 bs v _ hm1 (by omega) ⟨q1, q2⟩ (by omega)).mono ?_
        rintro e w2 ⟨rfl, hm2, ho2, hz2⟩
        have hbi2 := hbi1.only ho2 (by omega) (by omega)
        have ho12 := ho1.then ho2 (Or.inl rfl)
        clear hm1 hbi1 ho1 ho2 hz2
        have hq := len_256 bs v st.1
        have hq2 := len_std (decide (bs = 1000)) (set256 bs v st.1)
        rw [hbd] at HN hq2
        go_wp2_with fail
        refine (clearStd_any p b i k vb _ (bs == 1000) _ hm2).mono ?_
        rintro e w3 ⟨rfl, hm3, ho3, hz3⟩
        have hbi3 := hbi2.only ho3 (by omega) (by omega)
        have ho13 := ho12.then ho3 (Or.inl rfl)
        clear hm2 hbi2 ho12 ho3 hz3
        have l1 := length_insC (j : Int) st.2
        have l2 := length_insC ((j : Int) + 1) (insC (j : Int) st.2)
        have l3 := length_insC ((j : Int) + 2) (insC ((j : Int) + 1) (insC (j : Int) st.2))
        go_wp2_with (at_mapUpdate; refine wpList_set_codes rfl _ _ _ _ rfl mapUnder w.heap.size _ rfl hbi3 (by unfold maxLen; omega) _ rfl rfl (wf64 (by omega) (by omega)) ?_)
        intro w4 hbi4 hg4 hz4
        have hm4 := hm3.other hg4 (by omega) (by omega)
        have ho4 := ho13.idx hg4 (Nat.le_refl _)
        clear hbi3 hg4 hm3 ho13
        go_wp2_with (at_mapUpdate; refine wpList_set_codes rfl _ _ _ _ rfl mapUnder w.heap.size _ rfl hbi4 (by unfold maxLen; omega) _ rfl rfl (wf64 (by omega) (by omega)) ?_)
        intro w5 hbi5 hg5 hz5
        have hm5 := hm4.other hg5 (by omega) (by omega)
        have ho5 := ho4.idx hg5 (Nat.le_refl _)
        clear hbi4 hg5 hm4 ho4
        go_wp2_with (at_mapUpdate; refine wpList_set_codes rfl _ _ _ _ rfl mapUnder w.heap.size _ rfl hbi5 (by unfold maxLen; omega) _ rfl rfl (wf64 (by omega) (by omega)) ?_)
        intro w6 hbi6 hg6 hz6
        have hm6 := hm5.other hg6 (by omega) (by omega)
        have ho6 := ho5.idx hg6 (Nat.le_refl _)
        clear hbi5 hg6 hm5 ho5
        go_wp2
        exact ⟨⟨j + 3, f, (_, _), by go_num, by omega, by omega, hm6, hbi6, ho6, Nat.le_trans hq2 (by omega), Nat.le_trans l3 (by omega), HN⟩, by simp [intOf]; omega⟩
    · have HN := Lib.hid (HP.out.trans (proc256_done (by rw [List.length_map, hlen]; exact hjn)))
      clear HP
      go_wp2
      go_ret
      exact ⟨w.heap.size, rfl, Nat.le_refl _, by rw [HN.out]; exact hm, by rw [HN.out]; exact hbi, ho⟩

theorem atoi_range {l : List UInt8} {v : Int} (h : atoiL l = some v) : -9223372036854775808 ≤ v ∧ v ≤ 9223372036854775807 := by
  unfold atoiL at h
  split at h
  · cases h
  · split at h
    · split at h
      · split at h
        · cases h
        · injection h with h; omega
      · split at h
        · cases h
        · injection h with h; omega
    · cases h

set_option maxRecDepth 100000 in
set_option maxHeartbeats 8000000 in
theorem procReg_any (p b bi : Nat) (i : Bool) (k : Int) (vb : Value) (l idx : List Int) (A : Option Addr) (n c : Nat) (ss : List ByteArray) (w : World) (h : MAt w p b i k vb l) (hbi : SetAt w bi idx) (hbn : bi ≠ p ∧ bi ≠ b) (hs : StrsAt w w.heap.size A n c ss) (hA : Off A p b) (hz : ∀ s ∈ ss, s.size ≤ 1099511627776) (hn : n ≤ 1000000) (hl : l.length ≤ 10000000) :
    Calls Tryz.prog 51 #[.pointer (some ⟨p, 0, none⟩), .slice A n c, .map (some bi)] w fun e w' => e = .returned (.tuple #[]) ∧ CodeDone w w' p b i k vb (procReg idx 0 (ss.map bl) l) := by
  have hlen := hs.len
  have hp := h.lt
  have hbl := hbi.lt
  go_enter Tryz.func51, Tryz.ntmps51
  go_wp2
  go_loopw [12] (fun v12 wr => ∃ (j b' : Nat) (lx : List Int), v12 = .int .i64 j ∧ j ≤ n ∧ MAt wr p b' i k vb lx ∧ (b' = b ∨ w.heap.size ≤ b') ∧ Only w wr p b ∧ lx.length ≤ l.length + j ∧ Hid (procReg idx 0 (ss.map bl) l = procReg idx j ((ss.map bl).drop j) lx)) (fun v12 _ => n - (intOf v12).toNat)
  case atStart => exact ⟨0, b, l, rfl, Nat.zero_le _, h, Or.inl rfl, Only.refl _ _ _, by simp, rfl⟩
  case round =>
    obtain ⟨j, b', lx, rfl, hj, hm, hb', ho, hlx, HP⟩ := hrel
    by_cases hjn : j < n
    · obtain ⟨ad, x, rfl, hab, hx, hcx⟩ := hs.at_ (k := j) hjn
      have hcx' : wr.cell? (ad.add j) = some (.string x) := (World.cell?_of_block (w := w) (by rw [add_block]; exact ho.block ad.block hab (hA ad rfl).1 (hA ad rfl).2)).trans hcx
      have hxz := hz x (List.mem_of_getElem? hx)
      have HD := Lib.hid (show (ss.map bl).drop j = bl x :: (ss.map bl).drop (j + 1) from drop_step (by rw [List.getElem?_map, hx]; rfl))
      have hbr := hbi.only ho hbn.1 hbn.2
      have hjn' : (j : Int) < (n : Int) := by omega
      by_cases hin : (j : Int) ∈ idx
      · have HN := Lib.hid (show procReg idx 0 (ss.map bl) l = procReg idx (j + 1) ((ss.map bl).drop (j + 1)) lx by rw [HP.out, HD.out, procReg, if_pos hin])
        have hd : decide ((j : Int) ∈ idx) = true := decide_eq_true hin
        clear HP HD hx hcx
        go_wp2_with (at_lookup; refine wpList_has_codes rfl _ _ _ rfl mapUnder bi idx rfl hbr (j : Int) rfl (wf64 (by omega) (by omega)) ?_; rw [hd])
        exact ⟨⟨j + 1, b', lx, by go_num, by omega, hm, hb', ho, by omega, HN⟩, by simp [intOf]; omega⟩
      · have hd : decide ((j : Int) ∈ idx) = false := decide_eq_false hin
        go_wp2_with (at_lookup; refine wpList_has_codes rfl _ _ _ rfl mapUnder bi idx rfl hbr (j : Int) rfl (wf64 (by omega) (by omega)) ?_; rw [hd])
        refine (atoi_any x _ hxz).mono ?_
        rintro e w1 ⟨⟨v, er, rfl, hA0⟩, hb1⟩
        have hm1 := hm.below hb1
        have ho1 := ho.below hb1
        cases r0 : atoiL (bl x) with
        | none =>
          rw [r0] at hA0
          obtain ⟨q, u, rfl⟩ := hA0
          have HN := Lib.hid (show procReg idx 0 (ss.map bl) l = procReg idx (j + 1) ((ss.map bl).drop (j + 1)) lx by rw [HP.out, HD.out, procReg, if_neg hin, r0])
          clear HP HD hx hcx hm ho hb1
          go_wp2
          exact ⟨⟨j + 1, b', lx, by go_num, by omega, hm1, hb', ho1, by omega, HN⟩, by simp [intOf]; omega⟩
        | some m0 =>
          have hrange := atoi_range r0
          rw [r0] at hA0
          obtain ⟨rfl, rfl⟩ := hA0
          have HN := Lib.hid (show procReg idx 0 (ss.map bl) l = procReg idx (j + 1) ((ss.map bl).drop (j + 1)) (procCode v lx) by rw [HP.out, HD.out, procReg, if_neg hin, r0])
          have hcl := len_code v lx
          have hq : b' < w1.heap.size := hm1.lt.2
          clear HP HD hx hcx hm ho hb1 r0
          go_wp2_with fail
          refine (procCode_any p b' i k vb lx v _ hm1 hrange (by omega)).mono ?_
          rintro e w2 ⟨rfl, b2, hm2, hb2, ho2⟩
          have hs1 := ho1.size
          have ho12 := ho1.then ho2 hb'
          go_wp2
          exact ⟨⟨j + 1, b2, procCode v lx, by go_num, by omega, hm2, by rcases hb2 with e | e; exact e ▸ hb'; exact Or.inr (by omega), ho12, by omega, HN⟩, by simp [intOf]; omega⟩
    · have HN := Lib.hid (show procReg idx 0 (ss.map bl) l = lx by rw [HP.out, List.drop_of_length_le (by rw [List.length_map, hlen]; omega)]; rfl)
      clear HP
      go_wp2
      go_end0
      exact ⟨rfl, b', by rw [HN.out]; exact hm, hb', ho⟩
end Go.Proofs.YtlclmpiocbkabaaGreatDoor
