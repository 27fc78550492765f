import Derived.Test.Qxb6609058aRows
import Derived.WalkKit
import Derived.ProofKit
import Derived.OpenShut
import Derived.WalkSpells
import Derived.Laws.IdiomStrings
namespace Go.Proofs.Qxb6609058a
open Go.RowKit

/-- One of the ten digit bytes. -/
def dB (c : UInt8) : Bool := decide (48 ≤ (c.toNat : Int) ∧ (c.toNat : Int) ≤ 57)
/-- What isDigits answers. -/
def dgs (l : List UInt8) : Bool := !l.isEmpty && l.all dB

theorem ret_bool {a b : Bool} (h : a = b) : Ending.returned (.bool a) = .returned (.bool b) := by rw [h]
theorem take_snoc (s : ByteArray) (k : Nat) (h : k < s.size) : s.data.toList.take (k + 1) = s.data.toList.take k ++ [s[k]] := by
  rw [List.take_succ_eq_append_getElem (by simpa using h)]; rfl

set_option maxHeartbeats 400000 in
theorem isDigit_any (c : UInt8) (w : World) : Calls Try.prog 11 #[.int .u8 (c.toNat : Int)] w fun e w' => e = .returned (.bool (dB c)) ∧ w = w' := by
  by_cases h1 : 48 ≤ (c.toNat : Int)
  · by_cases h2 : (c.toNat : Int) ≤ 57
    · go_enter Try.func11, Try.ntmps11
      go_wp2
      go_ret
      exact ⟨ret_bool (by simp [dB, h1, h2]), rfl⟩
    · go_enter Try.func11, Try.ntmps11
      go_wp2
      go_ret
      exact ⟨ret_bool (by simp [dB, h2]), rfl⟩
  · go_enter Try.func11, Try.ntmps11
    go_wp2
    go_ret
    exact ⟨ret_bool (by unfold dB; symm; rw [decide_eq_false_iff_not]; omega), rfl⟩

theorem dec_eq (c : UInt8) : decide (((c.toNat : Int) - 48) % 256 < 10) = dB c := by
  have := UInt8.toNat_lt c
  unfold dB
  rw [decide_eq_decide]
  omega

theorem dec_any (c : UInt8) (w : World) : Calls Try.prog 7 #[.int .u8 (c.toNat : Int)] w fun e w' => e = .returned (.bool (dB c)) ∧ w = w' := by
  go_enter Try.func7, Try.ntmps7
  go_wp2
  go_ret
  exact ⟨ret_bool (dec_eq c), rfl⟩

theorem dgs_of_all (s : ByteArray) (k : Nat) (h : s.toList.isEmpty = false) (hk : ¬ k < s.size) (ha : (s.data.toList.take k).all dB = true) : true = dgs s.data.toList := by
  rw [ByteArray.toList_eq] at h
  rw [List.take_of_length_le (by have : s.data.toList.length = s.size := by simp; 
                                 omega)] at ha
  simp [dgs, h, ha]
theorem dgs_of_not (s : ByteArray) (k : Nat) (hk : k < s.size) (ha : dB s[k] = false) : false = dgs s.data.toList := by
  have hm : s[k] ∈ s.data.toList := by
    have : s[k] = s.data.toList[k]'(by simpa using hk) := rfl
    rw [this]; exact List.getElem_mem _
  have : s.data.toList.all dB = false := by
    rw [List.all_eq_false]
    exact ⟨_, hm, by simp [ha]⟩
  simp [dgs, this]
theorem dgs_empty (s : ByteArray) (h : s.toList.isEmpty = true) : false = dgs s.data.toList := by
  rw [ByteArray.toList_eq] at h
  simp [dgs, h]

set_option maxHeartbeats 400000 in
theorem isDigits_any (s : ByteArray) (w : World) (hs : s.size ≤ maxLen) :
    Calls Try.prog 10 #[.string s] w fun e w' => e = .returned (.bool (dgs s.data.toList)) ∧ w = w' := by
  unfold maxLen at hs
  by_cases h0 : s.toList.isEmpty = true
  · go_enter Try.func10, Try.ntmps10
    go_wp2
    go_ret
    exact ⟨ret_bool (dgs_empty s h0), rfl⟩
  · have h1 : s.toList.isEmpty = false := by simpa using h0
    clear h0
    go_enter Try.func10, Try.ntmps10
    go_wp2
    go_loop [3] (fun i => ∃ k : Nat, k ≤ s.size ∧ i = .int .i64 k ∧ (s.data.toList.take k).all dB = true) (fun i => s.size - (intOf i).toNat)
    case atStart => exact ⟨0, Nat.zero_le _, rfl, by simp⟩
    case round =>
      obtain ⟨k, hk, rfl, ha⟩ := hrel
      have HA : Hid ((s.data.toList.take k).all dB = true) := ha
      clear ha
      by_cases hlt : k < s.size
      · cases hd : dB s[k]
        · have HD : Hid (dB s[k] = false) := hd
          go_wp2_with (go_at_call 11; refine (isDigit_any _ _).mono ?_; rintro e w' ⟨rfl, rfl⟩)
          go_ret
          exact ⟨ret_bool (dgs_of_not s k hlt HD.out), rfl⟩
        · have HD : Hid (dB s[k] = true) := hd
          go_wp2_with (go_at_call 11; refine (isDigit_any _ _).mono ?_; rintro e w' ⟨rfl, rfl⟩)
          go_round
          case rel => exact ⟨k + 1, by omega, by go_num, by rw [take_snoc s k hlt, List.all_append, HA.out]; simpa using HD.out⟩
          case measure => simp [intOf]; omega
      · go_wp2
        go_ret
        exact ⟨ret_bool (dgs_of_all s k h1 hlt HA.out), rfl⟩

theorem zz_any (s : ByteArray) (w : World) (hs : s.size ≤ maxLen) :
    Calls Try.prog 6 #[.string s] w fun e w' => e = .returned (.bool (dgs s.data.toList)) ∧ w = w' := by
  go_enter Try.func6, Try.ntmps6
  go_wp2_with (go_at_call 10; refine (isDigits_any _ _ hs).mono ?_; rintro e w' ⟨rfl, rfl⟩)
  go_ret
  exact ⟨rfl, rfl⟩

end Go.Proofs.Qxb6609058a
