import Derived.Test.Qxb6609146aBase
namespace Go.Proofs.Qxb6609146a
open Go.RowKit

theorem wise_far (s : ByteArray) (i : Int) (w : World) (hs : s.size ≤ maxLen) (hi : -9223372036854775808 ≤ i ∧ i ≤ 9223372036854775807) (h : 1048576 < s.size ∨ i < 0 ∨ (s.size : Int) < i) :
    Calls Try.prog 3 #[.string s, .int .i64 i] w fun e w' => e = .returned (.bool true) ∧ Below w.heap.size w w' := by
  by_cases hb : s.size ≤ 1048576
  · by_cases h2 : i < 0
    · go_enter Try.func3, Try.ntmps3
      go_wp2_with (go_at_call 5; refine (bytes_small _ _ _ hb).mono ?_; rintro e w' ⟨rfl, rfl⟩)
      go_ret
      exact ⟨rfl, Below.refl _ _⟩
    · have h3 : (s.size : Int) < i := by omega
      go_enter Try.func3, Try.ntmps3
      go_wp2_with (go_at_call 5; refine (bytes_small _ _ _ hb).mono ?_; rintro e w' ⟨rfl, rfl⟩)
      go_ret
      exact ⟨rfl, Below.refl _ _⟩
  · have hb' : 1048576 < s.size := by omega
    go_enter Try.func3, Try.ntmps3
    go_wp2_with (go_at_call 5; refine (bytes_big _ _ _ hb' hs).mono ?_; rintro e w' ⟨rfl, rfl⟩)
    go_ret
    exact ⟨rfl, Below.refl _ _⟩

/-- How many of the first b bytes may stand in a bare key. -/
def cnt (b : Nat) : Nat := (List.range b).countP fun n => kB (UInt8.ofNat n)
theorem cnt_step (b : Nat) : cnt (b + 1) = cnt b + if kB (UInt8.ofNat b) = true then 1 else 0 := by
  unfold cnt
  rw [List.range_succ, List.countP_append, List.countP_singleton]
theorem cnt_le (b : Nat) : cnt b ≤ b := by
  unfold cnt
  exact Nat.le_trans List.countP_le_length (by simp)
theorem cnt_end : cnt 256 = 91 := by decide +kernel

theorem kAll_step (s : ByteArray) (k : Nat) : kAll (s.data.toList.take (k + 1)) = (kAll (s.data.toList.take k) && kAll (List.take 1 (s.data.toList.drop k))) := by
  rw [← kAll_append, List.take_add]
theorem kAll_cut (s : ByteArray) (j : Nat) : kAll s.data.toList = (kAll (s.data.toList.take j) && kAll (List.take (s.size - j) (s.data.toList.drop j))) := by
  rw [← kAll_append, List.take_of_length_le (l := s.data.toList.drop j) (by simp), List.take_append_drop]
theorem kAll_full (s : ByteArray) (k : Nat) (h : ¬ k < s.size) : kAll (s.data.toList.take k) = kAll s.data.toList := by
  rw [List.take_of_length_le (by have : s.data.toList.length = s.size := rfl; omega)]
theorem step_no {x y z : Bool} (h : x = (y && z)) (hz : (!z) = true) : Value.bool false = .bool x := by subst h; cases z <;> simp_all
theorem step_yes {x y z : Bool} (h : x = (y && z)) (hz : (!z) = false) : Value.bool y = .bool x := by subst h; cases z <;> simp_all

theorem conv_int (w : World) (b : Nat) (hb : b < 256) : (convert 24 9 (.slice (some ⟨w.heap.size, 0, none⟩) 1 1)).run Try.prog (w.alloc (.cells #[.int .u8 (b : Int)] 5)) = .ok (.string ⟨#[UInt8.ofNat b]⟩) (w.alloc (.cells #[.int .u8 (b : Int)] 5)) := by
  have e : (UInt8.ofNat b).toNat = b := by simp [UInt8.toNat_ofNat']; omega
  have := conv_one w (UInt8.ofNat b)
  rw [e] at this
  exact this
theorem one_len (c : UInt8) : (ByteArray.mk #[c]).size ≤ maxLen := by
  show 1 ≤ maxLen
  unfold maxLen; omega

theorem cnt_yes {n : Nat} (HT : Hid (cnt (n + 1) = cnt n + if kB (UInt8.ofNat n) = true then 1 else 0)) (HO : Hid (kAll [UInt8.ofNat n] = kB (UInt8.ofNat n))) (h : kAll [UInt8.ofNat n] = true) : Value.int .i64 ((cnt n : Int) + 1) = .int .i64 (cnt (n + 1) : Int) := by
  rw [HT.out, ← HO.out, h]; rfl
theorem cnt_no {n : Nat} (HT : Hid (cnt (n + 1) = cnt n + if kB (UInt8.ofNat n) = true then 1 else 0)) (HO : Hid (kAll [UInt8.ofNat n] = kB (UInt8.ofNat n))) (h : kAll [UInt8.ofNat n] = false) : Value.int .i64 (cnt n : Int) = .int .i64 (cnt (n + 1) : Int) := by
  rw [HT.out, ← HO.out, h]; rfl
theorem fin : ((cnt 256 : Int) == 91) = true := by rw [cnt_end]; rfl
theorem endA {x y z t : Bool} (HD : Hid (x = (y && z))) (HD2 : Hid (y = false)) (HS : Hid (t = x)) : ¬ x = true ∧ ¬ t = true := by
  have h1 := HD.out; have h2 := HD2.out; have h3 := HS.out; subst h1; subst h2; subst h3; simp
theorem endB {x y z t : Bool} (HD : Hid (x = (y && z))) (HD2 : Hid (y = true)) (HS : Hid (t = x)) : x = z ∧ z = t := by
  have h1 := HD.out; have h2 := HD2.out; have h3 := HS.out; subst h1; subst h2; subst h3; simp

set_option maxHeartbeats 2000000 in
set_option maxRecDepth 100000 in
theorem wise_near (s : ByteArray) (j : Nat) (w : World) (hs : s.size ≤ 1048576) (hj : j ≤ s.size) :
    Calls Try.prog 3 #[.string s, .int .i64 j] w fun e w' => e = .returned (.bool true) ∧ Below w.heap.size w w' := by
  have hml : s.size ≤ maxLen := by unfold maxLen; omega
  have hx1 : (s.extract 0 j).size ≤ maxLen := by simp [maxLen]; omega
  have hx2 : (s.extract j s.size).size ≤ maxLen := by simp [maxLen]; omega
  cases hd : kAll (s.data.toList.take j)
  all_goals
    have HD : Hid (kAll s.data.toList = (kAll (s.data.toList.take j) && kAll (List.take (s.size - j) (s.data.toList.drop j)))) := kAll_cut s j
    have HD2 : Hid (kAll (s.data.toList.take j) = _) := hd
    go_enter Try.func3, Try.ntmps3
    go_wp2_with (first | (go_at_call 5; refine (bytes_small _ _ _ hs).mono ?_; rintro e w' ⟨rfl, rfl⟩) | (go_at_call 6; refine (zz_any _ _ (by first | exact hml | exact hx1 | exact hx2)).mono ?_; rintro e w' ⟨rfl, rfl⟩))
    clear hd
    go_loop [7, 8] (fun e i => ∃ k : Nat, k ≤ s.size ∧ i = .int .i64 k ∧ e = .bool (kAll (s.data.toList.take k))) (fun _ i => s.size - (intOf i).toNat)
    case atStart => exact ⟨0, Nat.zero_le _, rfl, rfl⟩
    case round =>
      obtain ⟨k, hk, rfl, rfl⟩ := hrel
      by_cases hlt : k < s.size
      · have hx3 : (s.extract k (k + 1)).size ≤ maxLen := by simp [maxLen]; omega
        have HS : Hid (kAll (s.data.toList.take (k + 1)) = (kAll (s.data.toList.take k) && kAll (List.take 1 (s.data.toList.drop k)))) := kAll_step s k
        go_wp2_with (go_at_call 6; refine (zz_any _ _ hx3).mono ?_; rintro e w' ⟨rfl, rfl⟩)
        · go_round
          case rel => exact ⟨k + 1, by omega, by go_num, step_no HS.out ‹_›⟩
          case measure => simp [intOf]; omega
        · go_round
          case rel => exact ⟨k + 1, by omega, by go_num, step_yes HS.out ‹_›⟩
          case measure => simp [intOf]; omega
      · have HS : Hid (kAll (s.data.toList.take k) = kAll s.data.toList) := kAll_full s k hlt
        go_wp2
        go_loopw [9, 10] (fun c b wr => ∃ n : Nat, n ≤ 256 ∧ b = .int .i64 n ∧ c = .int .i64 (cnt n) ∧ Below w.heap.size w wr) (fun _ b _ => 256 - (intOf b).toNat)
        case atStart => exact ⟨0, Nat.zero_le _, rfl, rfl, Below.refl _ _⟩
        case round =>
          obtain ⟨n, hn, rfl, rfl, hbel⟩ := hrel
          have hcl := cnt_le n
          by_cases hlt2 : n < 256
          · have hcv := conv_int wr n hlt2
            have hone := one_len (UInt8.ofNat n)
            have HT : Hid (cnt (n + 1) = cnt n + if kB (UInt8.ofNat n) = true then 1 else 0) := cnt_step n
            have HO : Hid (kAll [UInt8.ofNat n] = kB (UInt8.ofNat n)) := kAll_one _
            go_wp2_with (go_at_call 6; refine (zz_any _ _ hone).mono ?_; rintro e w' ⟨rfl, rfl⟩)
            · go_roundw
              case rel => exact ⟨n + 1, by omega, by go_num, cnt_yes HT HO ‹_›, hbel.alloc hbel.size _⟩
              case measure => simp [intOf]; omega
            · go_roundw
              case rel => exact ⟨n + 1, by omega, by go_num, cnt_no HT HO ‹_›, hbel.alloc hbel.size _⟩
              case measure => simp [intOf]; omega
          · have hn2 : n = 256 := by omega
            subst hn2
            go_wp2
            all_goals (go_ret; refine ⟨ret_bool ?_, hbel⟩)
            all_goals first | exact fin | exact absurd ‹_› (endA HD HD2 HS).1 | exact absurd ‹_› (endA HD HD2 HS).2 | exact absurd (endB HD HD2 HS).1 ‹_› | exact absurd (endB HD HD2 HS).2 ‹_›

end Go.Proofs.Qxb6609146a
