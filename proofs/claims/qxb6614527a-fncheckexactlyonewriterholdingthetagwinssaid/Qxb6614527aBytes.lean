import Derived.Test.Qxb6614527aZz
namespace Go.Proofs.Qxb6614527a
open Go.RowKit
set_option linter.unusedVariables false

def AnyBool (w : World) (e : Ending) (w' : World) : Prop := (∃ b, e = .returned (.bool b)) ∧ w = w'

set_option maxHeartbeats 1000000 in
theorem bytes_some (cr : Bool) (ini : ByteArray) (b off len cap : Nat) (V : Nat → ByteArray) (w : World) (hi : ini.size ≤ maxLen) (hl : len ≤ maxLen) (hV : ∀ i, (V i).size ≤ maxLen) (hc : ∀ i, i < len → w.cell? ⟨b, off + i, none⟩ = some (.string (V i))) :
    Calls Try.prog 4 #[.bool cr, .string ini, .slice (some ⟨b, off, none⟩) len cap] w (AnyBool w) := by
  unfold maxLen at hi hl
  have HV : Hid (∀ i, (V i).size ≤ maxLen) := hV
  clear hV
  go_enter Try.func4, Try.ntmps4
  go_wp2_with fail
  all_goals first
    | (go_ret; exact ⟨⟨_, rfl⟩, rfl⟩)
    | skip
  go_loop [7, 8] (fun z i => ∃ k z' : Nat, k ≤ len ∧ z' ≤ 1048576 ∧ i = .int .i64 k ∧ z = .int .i64 z') (fun _ i => len - (intOf i).toNat)
  case atStart => exact ⟨0, ini.size + len, Nat.zero_le _, by omega, rfl, by go_num⟩
  case round =>
    obtain ⟨k, z, hk, hz, rfl, rfl⟩ := hrel
    by_cases hlt : k < len
    · have hx := hc k hlt
      have hv := HV.out k
      unfold maxLen at hv
      go_wp2_with fail
      · go_ret
        exact ⟨⟨_, rfl⟩, rfl⟩
      · go_ret
        exact ⟨⟨_, rfl⟩, rfl⟩
      · go_round
        case rel => exact ⟨k + 1, z + (V k).size, by omega, by omega, by go_num, by go_num⟩
        case measure => simp [intOf]; omega
    · go_wp2_with fail
      go_ret
      exact ⟨⟨_, rfl⟩, rfl⟩

set_option maxHeartbeats 1000000 in
theorem bytes_none (cr : Bool) (ini : ByteArray) (A : Option Addr) (len cap : Nat) (V : Nat → ByteArray) (w : World) (hi : ini.size ≤ maxLen) (hl : len ≤ maxLen) (hV : ∀ i, (V i).size ≤ maxLen) (h0 : len = 0) :
    Calls Try.prog 4 #[.bool cr, .string ini, .slice A len cap] w (AnyBool w) := by
  unfold maxLen at hi hl
  have HV : Hid (∀ i, (V i).size ≤ maxLen) := hV
  clear hV
  go_enter Try.func4, Try.ntmps4
  go_wp2_with fail
  all_goals first
    | (go_ret; exact ⟨⟨_, rfl⟩, rfl⟩)
    | skip
  go_loop [7, 8] (fun z i => ∃ k z' : Nat, k ≤ len ∧ z' ≤ 1048576 ∧ i = .int .i64 k ∧ z = .int .i64 z') (fun _ i => len - (intOf i).toNat)
  case atStart => exact ⟨0, ini.size + len, Nat.zero_le _, by omega, rfl, by go_num⟩
  case round =>
    obtain ⟨k, z, hk, hz, rfl, rfl⟩ := hrel
    by_cases hlt : k < len
    · omega
    · go_wp2_with fail
      go_ret
      exact ⟨⟨_, rfl⟩, rfl⟩

end Go.Proofs.Qxb6614527a
