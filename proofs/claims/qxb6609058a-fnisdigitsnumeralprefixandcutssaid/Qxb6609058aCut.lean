import Derived.Test.Qxb6609058aDec
import Derived.Lib.Strings
namespace Go.Proofs.Qxb6609058a
open Go.RowKit

theorem bytes_small4 (s : ByteArray) (i c : Int) (w : World) (h : s.size ≤ 1048576) :
    Calls Try.prog 8 #[.string s, .int .i64 i, .int .u64 c] w fun e w' => e = .returned (.bool true) ∧ w = w' := by
  go_enter Try.func8, Try.ntmps8
  go_wp2
  go_ret
  exact ⟨rfl, rfl⟩
theorem bytes_big4 (s : ByteArray) (i c : Int) (w : World) (h : 1048576 < s.size) (hm : s.size ≤ maxLen) :
    Calls Try.prog 8 #[.string s, .int .i64 i, .int .u64 c] w fun e w' => e = .returned (.bool false) ∧ w = w' := by
  unfold maxLen at hm
  go_enter Try.func8, Try.ntmps8
  go_wp2
  go_ret
  exact ⟨rfl, rfl⟩

theorem cut_far (s : ByteArray) (i : Int) (c : Int) (w : World) (hs : s.size ≤ maxLen) (hi : -9223372036854775808 ≤ i ∧ i ≤ 9223372036854775807) (h : 65536 < s.size ∨ i < 0 ∨ (s.size : Int) < i) :
    Calls Try.prog 4 #[.string s, .int .i64 i, .int .u64 c] w fun e w' => e = .returned (.bool true) ∧ Below w.heap.size w w' := by
  by_cases hb : s.size ≤ 1048576
  · by_cases h1 : 65536 < s.size
    · go_enter Try.func4, Try.ntmps4
      go_wp2_with (go_at_call 8; refine (bytes_small4 _ _ _ _ hb).mono ?_; rintro e w' ⟨rfl, rfl⟩)
      go_ret
      exact ⟨rfl, Below.refl _ _⟩
    · by_cases h2 : i < 0
      · go_enter Try.func4, Try.ntmps4
        go_wp2_with (go_at_call 8; refine (bytes_small4 _ _ _ _ hb).mono ?_; rintro e w' ⟨rfl, rfl⟩)
        go_ret
        exact ⟨rfl, Below.refl _ _⟩
      · have h3 : (s.size : Int) < i := by omega
        go_enter Try.func4, Try.ntmps4
        go_wp2_with (go_at_call 8; refine (bytes_small4 _ _ _ _ hb).mono ?_; rintro e w' ⟨rfl, rfl⟩)
        go_ret
        exact ⟨rfl, Below.refl _ _⟩
  · have hb' : 1048576 < s.size := by omega
    go_enter Try.func4, Try.ntmps4
    go_wp2_with (go_at_call 8; refine (bytes_big4 _ _ _ _ hb' hs).mono ?_; rintro e w' ⟨rfl, rfl⟩)
    go_ret
    exact ⟨rfl, Below.refl _ _⟩

theorem conv_own' (wr : World) (base g cap : Nat) (l : List UInt8) (n : Nat) (hn : l.length = n) (h : wr.ownsRow base 5 1 (.slice (some ⟨g, 0, none⟩) n cap) n (bvs l)) :
    (convert 24 9 (.slice (some ⟨g, 0, none⟩) n cap)).run Try.prog wr = .ok (.string ⟨l.toArray⟩) wr := by
  subst hn
  refine run_convert_bytes_back (P := Try.prog) wr 24 9 5 ⟨g, 0, none⟩ cap l Try.underlying24 Try.underlying5 Try.underlying9 ?_
  intro j hj
  have := h.cellAt j (by omega)
  have e : (⟨g, 0, none⟩ : Addr).add j = ⟨g, j, none⟩ := by simp [Addr.add]; intro h; exact h.symm
  rw [e, this]
  simp [bvs, hj, bv]
theorem row_at {wr : World} {base g cap n : Nat} {l : List UInt8} (h : wr.ownsRow base 5 1 (.slice (some ⟨g, 0, none⟩) n cap) n (bvs l)) (hn : l.length = n) (j : Nat) (u : Value) (hj : (bvs l)[j]? = some u) : wr.cell? ((⟨g, 0, none⟩ : Addr).add j) = some u := by
  have hl : j < l.length := by
    have := (List.getElem?_eq_some_iff.1 hj).1
    simpa [bvs] using this
  have e : (⟨g, 0, none⟩ : Addr).add j = ⟨g, j, none⟩ := by simp [Addr.add]; intro h; exact h.symm
  rw [e, h.cellAt j (by omega), hj]
theorem bvs_one (l : List UInt8) : ∀ u ∈ bvs l, u.oneCell' = true := by
  intro u hu
  simp only [bvs, List.mem_map] at hu
  obtain ⟨c, _, rfl⟩ := hu
  rfl
theorem dgs_num {l : List UInt8} (h : 0 < l.length) (ha : l.all dB = true) : dgs l = true := by
  cases l with
  | nil => simp at h
  | cons c l => simp only [dgs, ha]; rfl

theorem all_take_drop (l : List UInt8) (j : Nat) : l.all dB = ((l.take j).all dB && (l.drop j).all dB) := by
  rw [← List.all_append, List.take_append_drop]
theorem dgs_join {l : List UInt8} (s : ByteArray) (m : Nat) (hk : ¬ m < s.size) (h : 0 < l.length) (ha : l.all dB = true) : dgs (l ++ s.data.toList.take m) = s.data.toList.all dB := by
  rw [List.take_of_length_le (by simp; omega)]
  cases l with
  | nil => simp at h
  | cons c l =>
    simp only [dgs, List.all_append, ha, Bool.true_and]
    rfl
theorem dgs_left (s : ByteArray) (j : Nat) (h : 0 < j) (h2 : j < s.size) : dgs (s.extract 0 j).data.toList = (s.data.toList.take j).all dB := by
  rw [Lib.extract_data]
  simp only [List.drop_zero, Nat.sub_zero]
  have : (s.data.toList.take j).isEmpty = false := by
    cases h3 : (s.data.toList.take j).isEmpty with
    | false => rfl
    | true =>
      have h4 : s.data.toList.take j = [] := by simpa using h3
      have h5 : min j s.data.toList.length = 0 := by rw [← List.length_take, h4]; rfl
      have h6 : s.data.toList.length = s.size := rfl
      omega
  simp [dgs, this]
theorem dgs_right (s : ByteArray) (j : Nat) (h2 : j < s.size) : dgs (s.extract j s.size).data.toList = (s.data.toList.drop j).all dB := by
  rw [Lib.extract_data, List.take_of_length_le (by simp)]
  have : (s.data.toList.drop j).isEmpty = false := by
    cases h3 : (s.data.toList.drop j).isEmpty with
    | false => rfl
    | true =>
      have h4 : s.data.toList.drop j = [] := by simpa using h3
      have h5 := congrArg List.length h4
      simp at h5
      have h6 : s.data.size = s.size := rfl
      omega
  simp [dgs, this]

theorem wayA {s : ByteArray} {J : List UInt8} (HD : Hid (dgs J = s.data.toList.all dB)) (h : s.toList = []) (h2 : (!dgs J) = true) : False := by
  rw [ByteArray.toList_eq] at h
  rw [HD.out, h] at h2
  simp at h2
theorem wayB {s : ByteArray} {j : Nat} (h : s.toList = []) (h2 : j < s.size) : False := by
  rw [ByteArray.toList_eq] at h
  have h6 : s.data.toList.length = s.size := rfl
  rw [h] at h6
  simp at h6
  omega
theorem wayC {s : ByteArray} {J : List UInt8} (HD : Hid (dgs J = s.data.toList.all dB)) (h : ¬ s.toList = []) (h2 : (!dgs J == (s.toList.isEmpty || dgs s.data.toList)) = true) : False := by
  have h3 : s.toList.isEmpty = false := by simpa using h
  rw [HD.out, h3, dgs_all s h3] at h2
  simp at h2
theorem dgs_take {s : ByteArray} {j : Nat} (h0 : 0 < j) (h1 : j < s.size) : dgs (s.data.toList.take j) = (s.data.toList.take j).all dB := by
  have := dgs_left s j h0 h1
  rw [Lib.extract_data] at this
  simpa using this
theorem dgs_whole {s : ByteArray} {j : Nat} (h1 : j < s.size) : dgs s.data.toList = s.data.toList.all dB := by
  apply dgs_all
  cases h : s.toList.isEmpty with
  | false => rfl
  | true => exact (wayB (by simpa using h) h1).elim
theorem wayD {s : ByteArray} {j : Nat} (h0 : 0 < j) (h1 : j < s.size) (h : dgs (s.data.toList.take j) = true) (h2 : (!dgs s.data.toList == dgs (List.take (s.size - j) (s.data.toList.drop j))) = true) : False := by
  have := dgs_right s j h1
  rw [Lib.extract_data] at this
  rw [this, dgs_whole h1, all_take_drop s.data.toList j, ← dgs_take h0 h1, h] at h2
  simp at h2
theorem wayE {s : ByteArray} {j : Nat} (h0 : 0 < j) (h1 : j < s.size) (h : ¬ dgs (s.data.toList.take j) = true) (h2 : dgs s.data.toList = true) : False := by
  rw [dgs_whole h1, all_take_drop s.data.toList j, ← dgs_take h0 h1] at h2
  cases h3 : dgs (s.data.toList.take j) <;> simp_all

set_option maxHeartbeats 2000000 in
theorem cut_near (s : ByteArray) (j n : Nat) (w : World) (hs : s.size ≤ 65536) (hj : j ≤ s.size) (hn : n ≤ 18446744073709551615) :
    Calls Try.prog 4 #[.string s, .int .i64 j, .int .u64 n] w fun e w' => e = .returned (.bool true) ∧ Below w.heap.size w w' := by
  have hb : s.size ≤ 1048576 := by omega
  have hml : s.size ≤ maxLen := by unfold maxLen; omega
  obtain ⟨i0, hi, hz0, hz1, hz2⟩ := info_parts info5
  go_enter Try.func4, Try.ntmps4
  go_wp2_with (go_at_call 8; refine (bytes_small4 _ _ _ _ hb).mono ?_; rintro e w' ⟨rfl, rfl⟩)
  refine (decimal_any n _ hn).mono ?_
  rintro e w1 ⟨g, k, c0, l, rfl, hown, hlk, hk0, hk1, hall, hb1⟩
  have hcv := conv_own' w1 w.heap.size g c0 l k hlk hown
  have hll : (ByteArray.mk l.toArray).size ≤ maxLen := by
    show l.toArray.size ≤ maxLen
    rw [List.size_toArray, hlk]; unfold maxLen; omega
  have hdl : dgs l = true := dgs_num (by omega) hall
  obtain ⟨cap, hcap⟩ : ∃ cap : Nat, Hid (((k : Int) + (s.size : Int)) = (cap : Int)) := ⟨k + s.size, by show _ = _; omega⟩
  have HC1 : Hid (k + s.size = cap) := by have := hcap.out; show _ = _; omega
  have hc2 : cap ≤ 65556 := by have := HC1.out; omega
  have HL : Hid (l.length = k) := hlk
  have HA : Hid (l.all dB = true) := hall
  clear hlk hall
  go_wp2_with (first | (go_at_call 6; refine (zz_any _ _ hll).mono ?_; rintro e w' ⟨rfl, rfl⟩) | (at_make; refine wpList_make_own _ rfl _ _ 24 rfl w.heap.size 5 i0 (.int .u8 0) 1 Try.underlying24 hi hz0 hz1 .i64 .i64 _ cap rfl rfl hcap.out ?mb ?ml ?mbase ?_))
  case mb => rw [hz2]; omega
  case ml => unfold maxLen; omega
  case mbase => exact hb1.size
  intro w2 hown2 hgrow2
  have hb2 : Below w.heap.size w w2 := hb1.grown hgrow2 hb1.size (by intro k hk; cases hk)
  have hnum : w2.ownsRow w.heap.size 5 1 (.slice (some ⟨g, 0, none⟩) k c0) k (bvs l) := hown.kept hgrow2 (Or.inr (by simp [Value.ownBlock]))
  have hsz1 := hb1.size
  clear hown hgrow2 hb1 hcv
  go_wp2_with (at_builtin; refine wpList_append_fits _ rfl _ _ 24 rfl w.heap.size 5 i0 1 Try.underlying24 hi hz1 w1.heap.size 0 cap _ rfl hown2 ⟨g, 0, none⟩ k c0 (bvs l) rfl ?c0 ?c1 ?c2 ?c3 ?_)
  case c0 => simp [bvs]; exact HL.out
  case c1 => exact row_at hnum HL.out
  case c2 => exact bvs_one l
  case c3 => have := HC1.out; omega
  intro w3 hown3 hgrow3
  have hb3 : Below w.heap.size w w3 := hb2.grown hgrow3 hb2.size (by intro k hk; cases hk; exact hsz1)
  clear hown2 hgrow3 hb2 hnum
  go_wp2
  go_loopw [8, 9] (fun v i wr => ∃ m : Nat, m ≤ s.size ∧ i = .int .i64 m ∧ v = .slice (some ⟨w1.heap.size, 0, none⟩) (k + m) cap ∧ wr.ownsRow w.heap.size 5 1 (.slice (some ⟨w1.heap.size, 0, none⟩) (k + m) cap) (k + m) (bvs (l ++ s.data.toList.take m)) ∧ Below w.heap.size w wr)
    (fun _ i _ => s.size - (intOf i).toNat)
  case atStart => exact ⟨0, Nat.zero_le _, rfl, rfl, by simpa using hown3, hb3⟩
  case round =>
    clear hown3 hb3
    obtain ⟨m, hm, rfl, rfl, hown, hbel⟩ := hrel
    have hbs := hbel.size
    by_cases hlt : m < s.size
    · go_wp2_with (at_builtin; refine wpList_append_fits _ rfl _ _ 24 rfl w.heap.size 5 i0 1 Try.underlying24 hi hz1 w1.heap.size (k + m) cap _ rfl (hown.alloc _) ⟨wr.heap.size, 0, none⟩ 1 1 [bv s[m]] rfl rfl ?e1 ?e2 ?e3 ?_)
      case e1 => exact news_at _ _ _
      case e2 => intro u hu; simp at hu; subst hu; rfl
      case e3 => have := HC1.out; omega
      intro w4 hown2 hgrow2
      have hbel2 : Below w.heap.size w w4 := (hbel.alloc hbs _).grown hgrow2 (by simp; omega) (by intro k hk; cases hk; exact hsz1)
      have hown4 : w4.ownsRow w.heap.size 5 1 (.slice (some ⟨w1.heap.size, 0, none⟩) (k + (m + 1)) cap) (k + (m + 1)) (bvs (l ++ s.data.toList.take (m + 1))) := by
        rw [take_snoc s m hlt, ← List.append_assoc, bvs_snoc]; exact hown2
      clear hown2 hgrow2 hown hbel
      go_wp2
      go_roundw
      case rel => exact ⟨m + 1, by omega, by go_num, rfl, hown4, hbel2⟩
      case measure => simp [intOf]; omega
    · have hcv := conv_own' wr w.heap.size w1.heap.size cap (l ++ s.data.toList.take m) (k + m) (by have := HL.out; simp; omega) hown
      have hlen : (ByteArray.mk (l ++ s.data.toList.take m).toArray).size ≤ maxLen := by
        show (l ++ s.data.toList.take m).toArray.size ≤ maxLen
        rw [List.size_toArray]; have := HL.out; simp [maxLen]; omega
      have HD : Hid (dgs (l ++ s.data.toList.take m) = s.data.toList.all dB) := dgs_join s m hlt (by have := HL.out; omega) HA.out
      obtain ⟨J, hJ⟩ : ∃ J, Hid (l ++ s.data.toList.take m = J) := ⟨_, rfl⟩
      rw [hJ.out] at hcv hlen HD
      clear hown
      have hx1 : (s.extract 0 j).size ≤ maxLen := by simp [maxLen]; omega
      have hx2 : (s.extract j s.size).size ≤ maxLen := by simp [maxLen]; omega
      go_wp2_with (first | (go_at_call 6; refine (zz_any _ _ (by first | exact hlen | exact hml | exact hx1 | exact hx2)).mono ?_; rintro e w' ⟨rfl, rfl⟩))
      all_goals (go_ret; refine ⟨ret_bool ?_, hbel⟩)
      all_goals first | rfl | exact (wayA HD ‹_› ‹_›).elim | exact (wayC HD ‹_› ‹_›).elim | exact (wayD ‹_› ‹_› ‹_› ‹_›).elim | exact (wayE ‹_› ‹_› ‹_› ‹_›).elim

end Go.Proofs.Qxb6609058a
