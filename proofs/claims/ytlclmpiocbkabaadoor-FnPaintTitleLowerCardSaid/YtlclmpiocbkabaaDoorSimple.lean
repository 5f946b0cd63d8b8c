/- Walk of spec.TxSimple: what it answers. No condition. -/
import Derived.Test.YtlclmpiocbkabaaDoorKnown
import Derived.Test.YtlclmpiocbkabaaDoorPlain
namespace Go.Proofs.YtlclmpiocbkabaaDoor
open Go.RowKit

def okB (b : Bool) (r : Int) : Bool := knownB r || (b && decide (r = 10))
def simpleB (s : ByteArray) (b : Bool) : Bool := (runes s).all (okB b)

set_option maxHeartbeats 1000000 in
theorem simple_any (s : ByteArray) (b : Bool) (w : World) : Calls Tryd.prog 35 #[.string s, .bool b] w fun e w' => e = .returned (.bool (simpleB s b)) ∧ Below w.heap.size w w' := by
  go_enter Tryd.func35, Tryd.ntmps35
  go_wp2
  go_loopw [] (fun wr => ∃ pos : Nat, wr.heap[w.heap.size]? = some (.stringIter s pos) ∧ Below w.heap.size w wr ∧ simpleB s b = (runesFrom s pos).all (okB b)) (fun wr => s.size - wr.iterPos w.heap.size)
  case atStart => exact ⟨0, World.iter_heap w s 0, (Below.refl _ w).alloc (Nat.le_refl _) _, rfl⟩
  case round =>
    obtain ⟨pos, hit, hbw, hacc⟩ := hrel
    have HA := Lib.hid hacc
    clear hacc
    by_cases hp : pos < s.size
    · obtain ⟨r, pos2, wr2, hr, h0, h1, hlt, hle, hit2, hbw2, hsz, _, hnx⟩ := iter_next (P := Tryd.prog) hit hp hbw (Nat.le_refl _)
      have HR := Lib.hid hr
      clear hr hbw hsz
      by_cases hk : knownB r = true
      · go_wp2_with (go_at_call 52; refine (known_any _ _).mono ?_; rintro e w' ⟨rfl, rfl⟩)
        go_roundw
        case rel => exact ⟨pos2, hit2, hbw2, by rw [HA.out, HR.out]; simp [okB, hk]⟩
        case measure => have e1 := iterPos_of hit; have e2 := iterPos_of hit2; omega
      · have hk' : knownB r = false := by simpa using hk
        clear hk
        cases b with
        | false =>
          go_wp2_with (go_at_call 52; refine (known_any _ _).mono ?_; rintro e w' ⟨rfl, rfl⟩)
          go_ret
          exact ⟨ret_bool (by rw [HA.out, HR.out]; simp [okB, hk']), hbw2⟩
        | true =>
          by_cases hn : (r == 10) = true
          · go_wp2_with (go_at_call 52; refine (known_any _ _).mono ?_; rintro e w' ⟨rfl, rfl⟩)
            go_roundw
            case rel => exact ⟨pos2, hit2, hbw2, by rw [HA.out, HR.out]; simp [okB]; intro _; exact .inr (by simpa using hn)⟩
            case measure => have e1 := iterPos_of hit; have e2 := iterPos_of hit2; omega
          · have hn' : (r == 10) = false := by simpa using hn
            clear hn
            go_wp2_with (go_at_call 52; refine (known_any _ _).mono ?_; rintro e w' ⟨rfl, rfl⟩)
            go_ret
            exact ⟨ret_bool (by rw [HA.out, HR.out]; simp [okB, hk']; simp at hn'; simp [hn']), hbw2⟩
    · have hnx : ∀ ty, (Instr.next (.pointer (some ⟨w.heap.size, 0, none⟩)) true ty).run Tryd.prog wr = _ := fun ty => Lib.run_next_end_at wr w.heap.size s pos ty hit hp
      go_wp2
      go_ret
      rw [HA.out, runesFrom_end hp]
      exact ⟨rfl, hbw⟩
end Go.Proofs.YtlclmpiocbkabaaDoor
