import Derived.Test.Qxb6609146aBase
namespace Go.Proofs.Qxb6609146a
open Go.RowKit

theorem put_far (s : ByteArray) (i c : Int) (w : World) (hs : s.size ≤ maxLen) (hi : -9223372036854775808 ≤ i ∧ i ≤ 9223372036854775807) (h : 1048576 < s.size ∨ i < 0 ∨ (s.size : Int) < i) :
    Calls Try.prog 4 #[.string s, .int .i64 i, .int .u8 c] w fun e w' => e = .returned (.bool true) ∧ Below w.heap.size w w' := by
  by_cases hb : s.size ≤ 1048576
  · by_cases h2 : i < 0
    · go_enter Try.func4, Try.ntmps4
      go_wp2_with (go_at_call 7; refine (bytes_small7 _ _ _ _ hb).mono ?_; rintro e w' ⟨rfl, rfl⟩)
      go_ret
      exact ⟨rfl, Below.refl _ _⟩
    · have h3 : (s.size : Int) < i := by omega
      go_enter Try.func4, Try.ntmps4
      go_wp2_with (go_at_call 7; refine (bytes_small7 _ _ _ _ hb).mono ?_; rintro e w' ⟨rfl, rfl⟩)
      go_ret
      exact ⟨rfl, Below.refl _ _⟩
  · have hb' : 1048576 < s.size := by omega
    go_enter Try.func4, Try.ntmps4
    go_wp2_with (go_at_call 7; refine (bytes_big7 _ _ _ _ hb' hs).mono ?_; rintro e w' ⟨rfl, rfl⟩)
    go_ret
    exact ⟨rfl, Below.refl _ _⟩

/-- An ASCII letter or digit. -/
def aB (c : UInt8) : Bool := decide ((97 ≤ (c.toNat : Int) ∧ (c.toNat : Int) ≤ 122) ∨ (65 ≤ (c.toNat : Int) ∧ (c.toNat : Int) ≤ 90) ∨ (48 ≤ (c.toNat : Int) ∧ (c.toNat : Int) ≤ 57))

theorem alnum_any (c : UInt8) (w : World) : Calls Try.prog 8 #[.int .u8 (c.toNat : Int)] w fun e w' => e = .returned (.bool (aB c)) ∧ w = w' := by
  go_enter Try.func8, Try.ntmps8
  go_wp2
  all_goals (go_ret; refine ⟨ret_bool ?_, rfl⟩)
  all_goals (unfold aB; rw [Bool.eq_iff_iff]; simp only [Bool.or_eq_true, decide_eq_true_eq, Bool.false_eq_true, true_iff, false_iff]; omega)

/-- s with c put in at j. -/
theorem kAll_put (s : ByteArray) (j : Nat) (c : UInt8) : kAll (s.extract 0 j ++ ByteArray.mk #[c] ++ s.extract j s.size).data.toList = (kAll s.data.toList && kAll [c]) := by
  have e : (s.extract 0 j ++ ByteArray.mk #[c] ++ s.extract j s.size).data.toList = s.data.toList.take j ++ [c] ++ s.data.toList.drop j := by
    rw [ByteArray.data_append, ByteArray.data_append, Array.toList_append, Array.toList_append, Lib.extract_data, Lib.extract_data, List.take_of_length_le (l := s.data.toList.drop j) (by simp)]
    simp
  have e2 : kAll s.data.toList = (kAll (s.data.toList.take j) && kAll (s.data.toList.drop j)) := by rw [← kAll_append, List.take_append_drop]
  rw [e, e2, kAll_append, kAll_append]
  cases kAll (s.data.toList.take j) <;> cases kAll (s.data.toList.drop j) <;> cases kAll [c] <;> rfl

theorem go_below_drewN {B : Nat} {a w : World} (h : Below B a w) (n : Nat) : Below B a (w.drewN n) := h.trans ⟨rfl, rfl, rfl, Nat.le_refl _, fun _ _ => rfl⟩
theorem below_one (w : World) (v : Value) (n : Nat) : Below w.heap.size w ((w.alloc (.cells #[v] 5)).drewN n) := go_below_drewN ((Below.refl _ _).alloc (Nat.le_refl _) _) n
theorem wA {x y z : Bool} (HL : Hid (x = (y && z))) (h : y = true) (h2 : (!x == z) = true) : false = true := by
  have := HL.out; subst this; subst h; cases z <;> simp at h2
theorem wD {x y z : Bool} (HL : Hid (x = (y && z))) (h : ¬ y = true) (h2 : x = true) : false = true := by
  have := HL.out; subst this; cases y <;> simp_all
theorem wB {c : UInt8} (h : aB c = true) : kAll [c] = true := by
  rw [kAll_one]; unfold aB at h; unfold kB
  rw [decide_eq_true_iff] at *
  omega
theorem wC {c : UInt8} (h : (c.toNat : Int) = 32 ∨ (c.toNat : Int) = 44 ∨ (c.toNat : Int) = 34 ∨ (c.toNat : Int) = 92) : (!kAll [c]) = true := by
  rw [kAll_one]; unfold kB
  rw [Bool.not_eq_true', decide_eq_false_iff_not]
  omega
theorem wE {c : UInt8} (h : ((((c.toNat : Int) == 32) = true ∨ ((c.toNat : Int) == 44) = true) ∨ ((c.toNat : Int) == 34) = true) ∨ ((c.toNat : Int) == 92) = true) : (!kAll [c]) = true := by
  simp only [beq_iff_eq] at h
  exact wC (by omega)

set_option maxHeartbeats 2000000 in
theorem put_near (s : ByteArray) (j : Nat) (c : UInt8) (w : World) (hs : s.size ≤ 1048576) (hj : j ≤ s.size) :
    Calls Try.prog 4 #[.string s, .int .i64 j, .int .u8 (c.toNat : Int)] w fun e w' => e = .returned (.bool true) ∧ Below w.heap.size w w' := by
  have hml : s.size ≤ maxLen := by unfold maxLen; omega
  have hx1 : (s.extract 0 j).size ≤ maxLen := by simp [maxLen]; omega
  have hx2 : (s.extract j s.size).size ≤ maxLen := by simp [maxLen]; omega
  have hcv := conv_one w c
  go_enter Try.func4, Try.ntmps4
  go_wp2_with (first | (go_at_call 7; refine (bytes_small7 _ _ _ _ hs).mono ?_; rintro e w' ⟨rfl, rfl⟩))
  go_quiet (fail)
  have hone : (ByteArray.mk #[c]).size ≤ maxLen := by
    show 1 ≤ maxLen
    unfold maxLen; omega
  go_wp2_with fail
  refine (zz_any _ _ hone).mono ?_
  rintro e w' ⟨rfl, rfl⟩
  obtain ⟨T, hTd⟩ : ∃ T, Hid (s.extract 0 j ++ ByteArray.mk #[c] ++ s.extract j s.size = T) := ⟨_, rfl⟩
  have hT : T.size ≤ maxLen := by
    rw [← hTd.out]
    simp only [ByteArray.size_append, ByteArray.size_extract]
    show _ + 1 + _ ≤ _
    unfold maxLen; omega
  have HL : Hid (kAll T.data.toList = (kAll s.data.toList && kAll [c])) := by
    show _ = _
    rw [← hTd.out]; exact kAll_put s j c
  go_wp2_with fail
  rw [hTd.out]
  refine (zz_any T _ hT).mono ?_
  rintro e w' ⟨rfl, rfl⟩
  go_wp2_with (first | (go_at_call 6; refine (zz_any s _ hml).mono ?_; rintro e w' ⟨rfl, rfl⟩) | (go_at_call 8; refine (alnum_any c _).mono ?_; rintro e w' ⟨rfl, rfl⟩))
  all_goals (go_ret; refine ⟨ret_bool ?_, below_one _ _ _⟩)
  all_goals first | rfl | exact wB ‹_› | exact wE ‹_› | exact wC (Or.inl ‹_›) | exact wC (Or.inr (Or.inl ‹_›)) | exact wC (Or.inr (Or.inr (Or.inl ‹_›))) | exact wA HL ‹_› ‹_› | exact wD HL ‹_› ‹_›

end Go.Proofs.Qxb6609146a
