import Derived.Test.Qxb6609146aRows
import Derived.WalkKit
import Derived.ProofKit
import Derived.OpenShut
import Derived.WalkSpells
import Derived.BigQuiet
import Derived.Deep.QuietTactic
import Derived.Laws.IdiomStrings
import Derived.Lib.Strings
namespace Go.Proofs.Qxb6609146a
open Go.RowKit

/-- A byte that a bare key may hold. -/
def kB (c : UInt8) : Bool := decide (33 ≤ (c.toNat : Int) ∧ (c.toNat : Int) ≤ 126 ∧ (c.toNat : Int) ≠ 34 ∧ (c.toNat : Int) ≠ 92 ∧ (c.toNat : Int) ≠ 44)

/-- What isBareKey answers. -/
def kAll (l : List UInt8) : Bool := l.all kB
theorem kAll_append (l m : List UInt8) : kAll (l ++ m) = (kAll l && kAll m) := by simp [kAll]
theorem kAll_one (c : UInt8) : kAll [c] = kB c := by simp [kAll]

theorem ret_bool {a b : Bool} (h : a = b) : Ending.returned (.bool a) = .returned (.bool b) := by rw [h]
theorem take_snoc (s : ByteArray) (k : Nat) (h : k < s.size) : s.data.toList.take (k + 1) = s.data.toList.take k ++ [s[k]] := by
  rw [List.take_succ_eq_append_getElem (by simpa using h)]; rfl
theorem kB_yes {c : UInt8} (h : kB c = true) : 33 ≤ (c.toNat : Int) ∧ (c.toNat : Int) ≤ 126 ∧ ((c.toNat : Int) == 34) = false ∧ ((c.toNat : Int) == 92) = false ∧ ((c.toNat : Int) == 44) = false := by
  unfold kB at h
  rw [decide_eq_true_iff] at h
  simp only [beq_eq_false_iff_ne]
  exact h
theorem kB_no {c : UInt8} (h : kB c = false) : (c.toNat : Int) < 33 ∨ (33 ≤ (c.toNat : Int) ∧ (126 < (c.toNat : Int) ∨ ((c.toNat : Int) ≤ 126 ∧ (((c.toNat : Int) == 34) = true ∨ (((c.toNat : Int) == 34) = false ∧ (((c.toNat : Int) == 92) = true ∨ (((c.toNat : Int) == 92) = false ∧ ((c.toNat : Int) == 44) = true))))))) := by
  unfold kB at h
  rw [decide_eq_false_iff_not] at h
  simp only [beq_eq_false_iff_ne, beq_iff_eq]
  omega
theorem all_not (s : ByteArray) (k : Nat) (hk : k < s.size) (ha : kB s[k] = false) : false = s.data.toList.all kB := by
  have hm : s[k] ∈ s.data.toList := by
    have : s[k] = s.data.toList[k]'(by simpa using hk) := rfl
    rw [this]; exact List.getElem_mem _
  symm
  rw [List.all_eq_false]
  exact ⟨_, hm, by simp [ha]⟩
theorem all_end (s : ByteArray) (k : Nat) (hk : ¬ k < s.size) (ha : (s.data.toList.take k).all kB = true) : true = s.data.toList.all kB := by
  rw [List.take_of_length_le (by have : s.data.toList.length = s.size := rfl; omega)] at ha
  exact ha.symm

set_option maxHeartbeats 1000000 in
theorem bare_any (s : ByteArray) (w : World) (hs : s.size ≤ maxLen) :
    Calls Try.prog 9 #[.string s] w fun e w' => e = .returned (.bool (s.data.toList.all kB)) ∧ w = w' := by
  unfold maxLen at hs
  obtain ⟨r, hr⟩ : ∃ r, Hid (s.data.toList.all kB = r) := ⟨_, rfl⟩
  rw [hr.out]
  go_enter Try.func9, Try.ntmps9
  go_wp2
  go_loop [3, 4, 7] (fun _ _ i => ∃ k : Nat, k ≤ s.size ∧ i = .int .i64 k ∧ (s.data.toList.take k).all kB = true) (fun _ _ i => s.size - (intOf i).toNat)
  case atStart => exact ⟨0, Nat.zero_le _, rfl, by simp⟩
  case round =>
    obtain ⟨k, hk, rfl, ha⟩ := hrel
    have HA : Hid ((s.data.toList.take k).all kB = true) := ha
    clear ha
    by_cases hlt : k < s.size
    · cases hd : kB s[k]
      · have HD : Hid (kB s[k] = false) := hd
        have hh := kB_no hd
        clear hd
        rcases hh with h1 | ⟨h1, h2 | ⟨h2, h3 | ⟨h3, h4 | ⟨h4, h5⟩⟩⟩⟩
        all_goals
          go_wp2
          go_ret
          exact ⟨ret_bool ((all_not s k hlt HD.out).trans hr.out), rfl⟩
      · have HD : Hid (kB s[k] = true) := hd
        obtain ⟨h1, h2, h3, h4, h5⟩ := kB_yes hd
        clear hd
        go_wp2
        go_round
        case rel => exact ⟨k + 1, by omega, by go_num, by rw [take_snoc s k hlt, List.all_append, HA.out]; simpa using HD.out⟩
        case measure => simp [intOf]; omega
    · go_wp2
      go_ret
      exact ⟨ret_bool ((all_end s k hlt HA.out).trans hr.out), rfl⟩

theorem zz_any (s : ByteArray) (w : World) (hs : s.size ≤ maxLen) :
    Calls Try.prog 6 #[.string s] w fun e w' => e = .returned (.bool (kAll s.data.toList)) ∧ w = w' := by
  obtain ⟨r, hr⟩ : ∃ r, Hid (kAll s.data.toList = r) := ⟨_, rfl⟩
  rw [hr.out]
  go_enter Try.func6, Try.ntmps6
  go_wp2_with (go_at_call 9; refine (bare_any _ _ hs).mono ?_; rintro e w' ⟨rfl, rfl⟩)
  go_ret
  exact ⟨ret_bool (by have := hr.out; unfold kAll at this; simpa using this), rfl⟩

theorem bytes_small (s : ByteArray) (i : Int) (w : World) (h : s.size ≤ 1048576) :
    Calls Try.prog 5 #[.string s, .int .i64 i] w fun e w' => e = .returned (.bool true) ∧ w = w' := by
  go_enter Try.func5, Try.ntmps5
  go_wp2
  go_ret
  exact ⟨rfl, rfl⟩
theorem bytes_big (s : ByteArray) (i : Int) (w : World) (h : 1048576 < s.size) (hm : s.size ≤ maxLen) :
    Calls Try.prog 5 #[.string s, .int .i64 i] w fun e w' => e = .returned (.bool false) ∧ w = w' := by
  unfold maxLen at hm
  go_enter Try.func5, Try.ntmps5
  go_wp2
  go_ret
  exact ⟨rfl, rfl⟩
theorem bytes_small7 (s : ByteArray) (i c : Int) (w : World) (h : s.size ≤ 1048576) :
    Calls Try.prog 7 #[.string s, .int .i64 i, .int .u8 c] w fun e w' => e = .returned (.bool true) ∧ w = w' := by
  go_enter Try.func7, Try.ntmps7
  go_wp2
  go_ret
  exact ⟨rfl, rfl⟩
theorem bytes_big7 (s : ByteArray) (i c : Int) (w : World) (h : 1048576 < s.size) (hm : s.size ≤ maxLen) :
    Calls Try.prog 7 #[.string s, .int .i64 i, .int .u8 c] w fun e w' => e = .returned (.bool false) ∧ w = w' := by
  unfold maxLen at hm
  go_enter Try.func7, Try.ntmps7
  go_wp2
  go_ret
  exact ⟨rfl, rfl⟩

/-- string of one new byte. -/
theorem conv_one (w : World) (c : UInt8) : (convert 24 9 (.slice (some ⟨w.heap.size, 0, none⟩) 1 1)).run Try.prog (w.alloc (.cells #[.int .u8 (c.toNat : Int)] 5)) = .ok (.string ⟨#[c]⟩) (w.alloc (.cells #[.int .u8 (c.toNat : Int)] 5)) := by
  refine run_convert_bytes_back (P := Try.prog) _ 24 9 5 ⟨w.heap.size, 0, none⟩ 1 [c] Try.underlying24 Try.underlying5 Try.underlying9 ?_
  intro j hj
  have : j = 0 := by simpa using hj
  subst this
  simp [Addr.add]

end Go.Proofs.Qxb6609146a
