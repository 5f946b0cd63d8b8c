/- Walks of the small search functions on texts (index, contains, replace): what they answer. Condition: sizes below the bounds that are named. -/
import Derived.Test.YtlclmpiocbkabaaDoorKnown
import Derived.Test.YtlclmpiocbkabaaDoorSplit
import Derived.Lib.AppendStr
namespace Go.Proofs.YtlclmpiocbkabaaDoor
open Go.RowKit

theorem byteCells_str (s : ByteArray) : Lib.strCells s = Lib.byteCells (bl s) := rfl
def strSize : Value → Nat | .string s => s.size | _ => 0
theorem infoByte : (Tryd.prog.info? 5).map (fun i => (i.zero, i.size, i.bytes)) = some (some (.int .u8 0), 1, 1) := by kernel_rfl

set_option maxHeartbeats 1000000 in
theorem index_any (s p : ByteArray) (w : World) (hs : s.size ≤ 140737488355328) (hp : p.size ≤ 140737488355328) :
    Calls Tryd.prog 100 #[.string s, .string p] w fun e w' => e = .returned (.int .i64 (zfind s p 0)) ∧ w = w' := by
  go_enter Tryd.func100, Tryd.ntmps100
  go_wp2
  go_loop [5] (fun i => ∃ k : Nat, k ≤ s.size + 1 ∧ i = .int .i64 k ∧ zfind s p 0 = zfind s p k) (fun i => s.size + 1 - (intOf i).toNat)
  case atStart => exact ⟨0, Nat.zero_le _, rfl, rfl⟩
  case round =>
    obtain ⟨k, hk, rfl, hr⟩ := hrel
    have HR := Lib.hid hr
    clear hr
    by_cases hlt : k + p.size ≤ s.size
    · by_cases he : ((s.extract k (k + p.size)).toList == p.toList) = true
      · go_wp2
        go_ret
        exact ⟨ret_int (by rw [HR.out, zfind_hit hlt he]), rfl⟩
      · have he' : ((s.extract k (k + p.size)).toList == p.toList) = false := by simpa using he
        clear he
        go_wp2
        go_round
        case rel => exact ⟨k + 1, by omega, by go_num, by rw [HR.out, zfind_next hlt he']⟩
        case measure => simp [intOf]; omega
    · go_wp2
      go_ret
      exact ⟨ret_int (by rw [HR.out, zfind_end hlt]), rfl⟩


end Go.Proofs.YtlclmpiocbkabaaDoor
