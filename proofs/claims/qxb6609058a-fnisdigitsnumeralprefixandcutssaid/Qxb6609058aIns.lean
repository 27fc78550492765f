import Derived.Test.Qxb6609058aBase
import Derived.OwnWalk
namespace Go.Proofs.Qxb6609058a
open Go.RowKit

theorem info5 : (Try.prog.info? 5).map (fun i => (i.zero, i.size, i.bytes)) = some (some (.int .u8 0), 1, 1) := by kernel_rfl

/-- A byte as a cell. -/
def bv (c : UInt8) : Value := .int .u8 (c.toNat : Int)

/-- Bytes as cells. -/
def bvs (l : List UInt8) : List Value := l.map bv
theorem bvs_snoc (l : List UInt8) (c : UInt8) : bvs (l ++ [c]) = bvs l ++ [bv c] := by simp [bvs]

theorem bytes_small (s : ByteArray) (i c : Int) (w : World) (h : s.size ≤ 1048576) :
    Calls Try.prog 5 #[.string s, .int .i64 i, .int .u8 c] w fun e w' => e = .returned (.bool true) ∧ w = w' := by
  go_enter Try.func5, Try.ntmps5
  go_wp2
  go_ret
  exact ⟨rfl, rfl⟩
theorem bytes_big (s : ByteArray) (i c : Int) (w : World) (h : 1048576 < s.size) (hm : s.size ≤ maxLen) :
    Calls Try.prog 5 #[.string s, .int .i64 i, .int .u8 c] w fun e w' => e = .returned (.bool false) ∧ w = w' := by
  unfold maxLen at hm
  go_enter Try.func5, Try.ntmps5
  go_wp2
  go_ret
  exact ⟨rfl, rfl⟩

theorem ins_far (s : ByteArray) (i : Int) (c : Int) (w : World) (hs : s.size ≤ maxLen) (hi : -9223372036854775808 ≤ i ∧ i ≤ 9223372036854775807) (h : 65536 < s.size ∨ i < 0 ∨ (s.size : Int) < i) :
    Calls Try.prog 3 #[.string s, .int .i64 i, .int .u8 c] w fun e w' => e = .returned (.bool true) ∧ Below w.heap.size w w' := by
  by_cases hb : s.size ≤ 1048576
  · by_cases h1 : 65536 < s.size
    · go_enter Try.func3, Try.ntmps3
      go_wp2_with (go_at_call 5; refine (bytes_small _ _ _ _ hb).mono ?_; rintro e w' ⟨rfl, rfl⟩)
      go_ret
      exact ⟨rfl, Below.refl _ _⟩
    · by_cases h2 : i < 0
      · go_enter Try.func3, Try.ntmps3
        go_wp2_with (go_at_call 5; refine (bytes_small _ _ _ _ hb).mono ?_; rintro e w' ⟨rfl, rfl⟩)
        go_ret
        exact ⟨rfl, Below.refl _ _⟩
      · have h3 : (s.size : Int) < i := by omega
        go_enter Try.func3, Try.ntmps3
        go_wp2_with (go_at_call 5; refine (bytes_small _ _ _ _ hb).mono ?_; rintro e w' ⟨rfl, rfl⟩)
        go_ret
        exact ⟨rfl, Below.refl _ _⟩
  · have hb' : 1048576 < s.size := by omega
    go_enter Try.func3, Try.ntmps3
    go_wp2_with (go_at_call 5; refine (bytes_big _ _ _ _ hb' hs).mono ?_; rintro e w' ⟨rfl, rfl⟩)
    go_ret
    exact ⟨rfl, Below.refl _ _⟩

theorem below_step {B : Nat} {w wr w1 : World} {o : Obj} (h : Below B w wr) (hB : B ≤ wr.heap.size) (hg : (wr.alloc o).grownBy w1 (some B)) : Below B w w1 :=
  (h.alloc hB o).grown hg (by simp; omega) (by intro k hk; cases hk; exact Nat.le_refl _)

theorem news_at (wr : World) (v : Value) (t : TypeId) (j : Nat) (u : Value) (hj : [v][j]? = some u) : (wr.alloc (.cells #[v] t)).cell? ((⟨wr.heap.size, 0, none⟩ : Addr).add j) = some u := by
  match j, hj with
  | 0, hj => simp at hj; subst hj; simp [Addr.add]

/-- The first k bytes of s, c put in at j. -/
def insL (s : ByteArray) (j k : Nat) (c : UInt8) : List UInt8 := s.data.toList.take j ++ c :: (s.data.toList.take k).drop j
theorem insL_start (s : ByteArray) (j : Nat) (c : UInt8) : insL s j j c = s.data.toList.take j ++ [c] := by
  have : (s.data.toList.take j).drop j = [] := List.drop_eq_nil_of_le (by simp; omega)
  simp [insL, this]
theorem insL_step (s : ByteArray) (j k : Nat) (c : UInt8) (hj : j ≤ k) (hk : k < s.size) : insL s j (k + 1) c = insL s j k c ++ [s[k]] := by
  unfold insL
  rw [take_snoc s k hk, List.drop_append_of_le_length (by simp; omega)]
  simp
theorem insL_length (s : ByteArray) (j k : Nat) (c : UInt8) (hj : j ≤ k) (hk : k ≤ s.size) : (insL s j k c).length = k + 1 := by
  simp [insL]; omega
theorem dgs_ins (s : ByteArray) (j k : Nat) (c : UInt8) (hk : ¬ k < s.size) : dgs (insL s j k c) = (s.data.toList.all dB && dB c) := by
  unfold insL
  rw [List.take_of_length_le (i := k) (by simp; omega)]
  have h : s.data.toList.all dB = ((s.data.toList.take j).all dB && (s.data.toList.drop j).all dB) := by
    rw [← List.all_append, List.take_append_drop]
  rw [h]
  have he : (s.data.toList.take j ++ c :: s.data.toList.drop j).isEmpty = false := by simp
  simp only [dgs, he, List.all_append, List.all_cons]
  cases (List.take j s.data.toList).all dB <;> cases (List.drop j s.data.toList).all dB <;> cases dB c <;> rfl
theorem dgs_all (s : ByteArray) (h : s.toList.isEmpty = false) : dgs s.data.toList = s.data.toList.all dB := by
  rw [ByteArray.toList_eq] at h
  simp [dgs, h]
theorem all_empty (s : ByteArray) (h : s.toList.isEmpty = true) : s.data.toList.all dB = true := by
  rw [ByteArray.toList_eq] at h
  have : s.data.toList = [] := by simpa using h
  rw [this]; rfl

theorem conv_own (wr : World) (B cap : Nat) (l : List UInt8) (n : Nat) (hn : l.length = n) (h : wr.ownsRow B 5 1 (.slice (some ⟨B, 0, none⟩) n cap) n (bvs l)) :
    (convert 24 9 (.slice (some ⟨B, 0, none⟩) n cap)).run Try.prog wr = .ok (.string ⟨l.toArray⟩) wr := by
  subst hn
  refine run_convert_bytes_back (P := Try.prog) wr 24 9 5 ⟨B, 0, none⟩ cap l Try.underlying24 Try.underlying5 Try.underlying9 ?_
  intro j hj
  have := h.cellAt j (by omega)
  have e : (⟨B, 0, none⟩ : Addr).add j = ⟨B, j, none⟩ := by simp [Addr.add]; intro h; exact h.symm
  rw [e, this]
  simp [bvs, hj, bv]

theorem ins_yes {x y d : Bool} (h : x = (y && d)) (hy : y = true) : (x == d) = true := by subst h; subst hy; cases d <;> rfl
theorem ins_no {x y d : Bool} (h : x = (y && d)) (hy : ¬ y = true) : (!x) = true := by subst h; cases y <;> simp_all

set_option maxHeartbeats 2000000 in
theorem ins_near (s : ByteArray) (j : Nat) (c : UInt8) (w : World) (hs : s.size ≤ 65536) (hj : j ≤ s.size) (hne : s.toList.isEmpty = false) :
    Calls Try.prog 3 #[.string s, .int .i64 j, .int .u8 (c.toNat : Int)] w fun e w' => e = .returned (.bool true) ∧ Below w.heap.size w w' := by
  have hb : s.size ≤ 1048576 := by omega
  have hml : s.size ≤ maxLen := by unfold maxLen; omega
  obtain ⟨i0, hi, hz0, hz1, hz2⟩ := info_parts info5
  obtain ⟨cap, hcap⟩ : ∃ cap, Hid (s.size + 1 = cap) := ⟨_, rfl⟩
  have hcl : s.size < cap := by have := hcap.out; omega
  have hcu : cap ≤ 65537 := by have := hcap.out; omega
  have HC : Hid (((s.size : Int) + 1) = (cap : Int)) := by have := hcap.out; show _ = _; omega
  go_enter Try.func3, Try.ntmps3
  go_wp2_with (first | (go_at_call 5; refine (bytes_small _ _ _ _ hb).mono ?_; rintro e w' ⟨rfl, rfl⟩) | (go_at_call 6; refine (zz_any _ _ hml).mono ?_; rintro e w' ⟨rfl, rfl⟩) | (at_make; refine wpList_make_own _ rfl _ _ 24 rfl w.heap.size 5 i0 (.int .u8 0) 1 Try.underlying24 hi hz0 hz1 .i64 .i64 _ cap rfl rfl HC.out ?mb ?ml ?mbase ?_))
  case mb => rw [hz2]; omega
  case ml => unfold maxLen; omega
  case mbase => exact Nat.le_refl _
  intro w1 hown hgrow
  have hb1 : Below w.heap.size w w1 := (Below.refl _ _).grown hgrow (Nat.le_refl _) (by intro k hk; cases hk)
  clear hgrow
  go_wp2
  go_loopw [7, 8] (fun v i wr => ∃ k : Nat, k ≤ j ∧ i = .int .i64 k ∧ v = .slice (some ⟨w.heap.size, 0, none⟩) k cap ∧ wr.ownsRow w.heap.size 5 1 (.slice (some ⟨w.heap.size, 0, none⟩) k cap) k (bvs (s.data.toList.take k)) ∧ Below w.heap.size w wr)
    (fun _ i _ => j - (intOf i).toNat)
  case atStart => exact ⟨0, Nat.zero_le _, rfl, rfl, hown, hb1⟩
  case round =>
    clear hown hb1
    obtain ⟨k, hk, rfl, rfl, hown, hbel⟩ := hrel
    have hbs := hbel.size
    by_cases hlt : k < j
    · have hks : k < s.size := by omega
      go_wp2_with (at_builtin; refine wpList_append_fits _ rfl _ _ 24 rfl w.heap.size 5 i0 1 Try.underlying24 hi hz1 w.heap.size k cap _ rfl (hown.alloc _) ⟨wr.heap.size, 0, none⟩ 1 1 [bv s[k]] rfl rfl ?c1 ?c2 ?c3 ?_)
      case c1 => exact news_at _ _ _
      case c2 => intro u hu; simp at hu; subst hu; rfl
      case c3 => omega
      intro w2 hown2 hgrow2
      have hbel2 := below_step hbel hbs hgrow2
      have hown3 : w2.ownsRow w.heap.size 5 1 (.slice (some ⟨w.heap.size, 0, none⟩) (k + 1) cap) (k + 1) (bvs (s.data.toList.take (k + 1))) := by
        rw [take_snoc s k hks, bvs_snoc]; exact hown2
      clear hown2 hgrow2 hown
      go_wp2
      go_roundw
      case rel => exact ⟨k + 1, by omega, by go_num, rfl, hown3, hbel2⟩
      case measure => simp [intOf]; omega
    · have hkj : k = j := by omega
      subst hkj
      go_wp2_with (at_builtin; refine wpList_append_fits _ rfl _ _ 24 rfl w.heap.size 5 i0 1 Try.underlying24 hi hz1 w.heap.size k cap _ rfl (hown.alloc _) ⟨wr.heap.size, 0, none⟩ 1 1 [bv c] rfl rfl ?d1 ?d2 ?d3 ?_)
      case d1 => exact news_at _ _ _
      case d2 => intro u hu; simp at hu; subst hu; rfl
      case d3 => omega
      intro w2 hown2 hgrow2
      have hbel2 := below_step hbel hbs hgrow2
      have hown3 : w2.ownsRow w.heap.size 5 1 (.slice (some ⟨w.heap.size, 0, none⟩) (k + 1) cap) (k + 1) (bvs (insL s k k c)) := by
        rw [insL_start, bvs_snoc]; exact hown2
      clear hown2 hgrow2 hown hbel hbs
      go_wp2
      go_loopw [7, 9] (fun v i wr => ∃ m : Nat, k ≤ m ∧ m ≤ s.size ∧ i = .int .i64 m ∧ v = .slice (some ⟨w.heap.size, 0, none⟩) (m + 1) cap ∧ wr.ownsRow w.heap.size 5 1 (.slice (some ⟨w.heap.size, 0, none⟩) (m + 1) cap) (m + 1) (bvs (insL s k m c)) ∧ Below w.heap.size w wr)
        (fun _ i _ => s.size - (intOf i).toNat)
      case atStart => exact ⟨k, Nat.le_refl _, hj, rfl, rfl, hown3, hbel2⟩
      case round =>
        clear hown3 hbel2
        obtain ⟨m, hm, hms, rfl, rfl, hown, hbel⟩ := hrel
        have hbs := hbel.size
        by_cases hlt : m < s.size
        · go_wp2_with (at_builtin; refine wpList_append_fits _ rfl _ _ 24 rfl w.heap.size 5 i0 1 Try.underlying24 hi hz1 w.heap.size (m + 1) cap _ rfl (hown.alloc _) ⟨wr.heap.size, 0, none⟩ 1 1 [bv s[m]] rfl rfl ?e1 ?e2 ?e3 ?_)
          case e1 => exact news_at _ _ _
          case e2 => intro u hu; simp at hu; subst hu; rfl
          case e3 => omega
          intro w3 hown2 hgrow2
          have hbel2 := below_step hbel hbs hgrow2
          have hown3 : w3.ownsRow w.heap.size 5 1 (.slice (some ⟨w.heap.size, 0, none⟩) (m + 1 + 1) cap) (m + 1 + 1) (bvs (insL s k (m + 1) c)) := by
            rw [insL_step s k m c hm hlt, bvs_snoc]; exact hown2
          clear hown2 hgrow2 hown hbel hbs
          go_wp2
          go_roundw
          case rel => exact ⟨m + 1, by omega, by omega, by go_num, rfl, hown3, hbel2⟩
          case measure => simp [intOf]; omega
        · have hcv := conv_own wr w.heap.size cap (insL s k m c) (m + 1) (insL_length s k m c hm hms) hown
          have hlen : (ByteArray.mk (insL s k m c).toArray).size ≤ maxLen := by
            show (insL s k m c).toArray.size ≤ maxLen
            rw [List.size_toArray, insL_length s k m c hm hms]; unfold maxLen; omega
          have HD : Hid (dgs (insL s k m c) = (s.data.toList.all dB && dB c)) := dgs_ins s k m c hlt
          clear hown
          go_wp2_with (first | (go_at_call 6; refine (zz_any _ _ (by first | exact hlen | exact hml)).mono ?_; rintro e w' ⟨rfl, rfl⟩) | (go_at_call 7; refine (dec_any _ _).mono ?_; rintro e w' ⟨rfl, rfl⟩))
          · go_ret
            exact ⟨ret_bool (ins_yes HD.out (by rw [← dgs_all s hne]; assumption)), hbel⟩
          · go_ret
            exact ⟨ret_bool (ins_no HD.out (by rw [← dgs_all s hne]; assumption)), hbel⟩

set_option maxHeartbeats 2000000 in
theorem ins_empty (s : ByteArray) (j : Nat) (c : UInt8) (w : World) (hs : s.size ≤ 65536) (hj : j ≤ s.size) (hne : s.toList.isEmpty = true) :
    Calls Try.prog 3 #[.string s, .int .i64 j, .int .u8 (c.toNat : Int)] w fun e w' => e = .returned (.bool true) ∧ Below w.heap.size w w' := by
  have hb : s.size ≤ 1048576 := by omega
  have hml : s.size ≤ maxLen := by unfold maxLen; omega
  obtain ⟨i0, hi, hz0, hz1, hz2⟩ := info_parts info5
  obtain ⟨cap, hcap⟩ : ∃ cap, Hid (s.size + 1 = cap) := ⟨_, rfl⟩
  have hcl : s.size < cap := by have := hcap.out; omega
  have hcu : cap ≤ 65537 := by have := hcap.out; omega
  have HC : Hid (((s.size : Int) + 1) = (cap : Int)) := by have := hcap.out; show _ = _; omega
  have hd0 : dgs s.data.toList = false := (dgs_empty s hne).symm
  go_enter Try.func3, Try.ntmps3
  go_wp2_with (first | (go_at_call 5; refine (bytes_small _ _ _ _ hb).mono ?_; rintro e w' ⟨rfl, rfl⟩) | (go_at_call 6; refine (zz_any _ _ hml).mono ?_; rintro e w' ⟨rfl, rfl⟩) | (at_make; refine wpList_make_own _ rfl _ _ 24 rfl w.heap.size 5 i0 (.int .u8 0) 1 Try.underlying24 hi hz0 hz1 .i64 .i64 _ cap rfl rfl HC.out ?mb ?ml ?mbase ?_))
  case mb => rw [hz2]; omega
  case ml => unfold maxLen; omega
  case mbase => exact Nat.le_refl _
  intro w1 hown hgrow
  have hb1 : Below w.heap.size w w1 := (Below.refl _ _).grown hgrow (Nat.le_refl _) (by intro k hk; cases hk)
  clear hgrow
  go_wp2
  go_loopw [7, 8] (fun v i wr => ∃ k : Nat, k ≤ j ∧ i = .int .i64 k ∧ v = .slice (some ⟨w.heap.size, 0, none⟩) k cap ∧ wr.ownsRow w.heap.size 5 1 (.slice (some ⟨w.heap.size, 0, none⟩) k cap) k (bvs (s.data.toList.take k)) ∧ Below w.heap.size w wr)
    (fun _ i _ => j - (intOf i).toNat)
  case atStart => exact ⟨0, Nat.zero_le _, rfl, rfl, hown, hb1⟩
  case round =>
    clear hown hb1
    obtain ⟨k, hk, rfl, rfl, hown, hbel⟩ := hrel
    have hbs := hbel.size
    by_cases hlt : k < j
    · have hks : k < s.size := by omega
      go_wp2_with (at_builtin; refine wpList_append_fits _ rfl _ _ 24 rfl w.heap.size 5 i0 1 Try.underlying24 hi hz1 w.heap.size k cap _ rfl (hown.alloc _) ⟨wr.heap.size, 0, none⟩ 1 1 [bv s[k]] rfl rfl ?c1 ?c2 ?c3 ?_)
      case c1 => exact news_at _ _ _
      case c2 => intro u hu; simp at hu; subst hu; rfl
      case c3 => omega
      intro w2 hown2 hgrow2
      have hbel2 := below_step hbel hbs hgrow2
      have hown3 : w2.ownsRow w.heap.size 5 1 (.slice (some ⟨w.heap.size, 0, none⟩) (k + 1) cap) (k + 1) (bvs (s.data.toList.take (k + 1))) := by
        rw [take_snoc s k hks, bvs_snoc]; exact hown2
      clear hown2 hgrow2 hown
      go_wp2
      go_roundw
      case rel => exact ⟨k + 1, by omega, by go_num, rfl, hown3, hbel2⟩
      case measure => simp [intOf]; omega
    · have hkj : k = j := by omega
      subst hkj
      go_wp2_with (at_builtin; refine wpList_append_fits _ rfl _ _ 24 rfl w.heap.size 5 i0 1 Try.underlying24 hi hz1 w.heap.size k cap _ rfl (hown.alloc _) ⟨wr.heap.size, 0, none⟩ 1 1 [bv c] rfl rfl ?d1 ?d2 ?d3 ?_)
      case d1 => exact news_at _ _ _
      case d2 => intro u hu; simp at hu; subst hu; rfl
      case d3 => omega
      intro w2 hown2 hgrow2
      have hbel2 := below_step hbel hbs hgrow2
      have hown3 : w2.ownsRow w.heap.size 5 1 (.slice (some ⟨w.heap.size, 0, none⟩) (k + 1) cap) (k + 1) (bvs (insL s k k c)) := by
        rw [insL_start, bvs_snoc]; exact hown2
      clear hown2 hgrow2 hown hbel hbs
      go_wp2
      go_loopw [7, 9] (fun v i wr => ∃ m : Nat, k ≤ m ∧ m ≤ s.size ∧ i = .int .i64 m ∧ v = .slice (some ⟨w.heap.size, 0, none⟩) (m + 1) cap ∧ wr.ownsRow w.heap.size 5 1 (.slice (some ⟨w.heap.size, 0, none⟩) (m + 1) cap) (m + 1) (bvs (insL s k m c)) ∧ Below w.heap.size w wr)
        (fun _ i _ => s.size - (intOf i).toNat)
      case atStart => exact ⟨k, Nat.le_refl _, hj, rfl, rfl, hown3, hbel2⟩
      case round =>
        clear hown3 hbel2
        obtain ⟨m, hm, hms, rfl, rfl, hown, hbel⟩ := hrel
        have hbs := hbel.size
        by_cases hlt : m < s.size
        · go_wp2_with (at_builtin; refine wpList_append_fits _ rfl _ _ 24 rfl w.heap.size 5 i0 1 Try.underlying24 hi hz1 w.heap.size (m + 1) cap _ rfl (hown.alloc _) ⟨wr.heap.size, 0, none⟩ 1 1 [bv s[m]] rfl rfl ?e1 ?e2 ?e3 ?_)
          case e1 => exact news_at _ _ _
          case e2 => intro u hu; simp at hu; subst hu; rfl
          case e3 => omega
          intro w3 hown2 hgrow2
          have hbel2 := below_step hbel hbs hgrow2
          have hown3 : w3.ownsRow w.heap.size 5 1 (.slice (some ⟨w.heap.size, 0, none⟩) (m + 1 + 1) cap) (m + 1 + 1) (bvs (insL s k (m + 1) c)) := by
            rw [insL_step s k m c hm hlt, bvs_snoc]; exact hown2
          clear hown2 hgrow2 hown hbel hbs
          go_wp2
          go_roundw
          case rel => exact ⟨m + 1, by omega, by omega, by go_num, rfl, hown3, hbel2⟩
          case measure => simp [intOf]; omega
        · have hcv := conv_own wr w.heap.size cap (insL s k m c) (m + 1) (insL_length s k m c hm hms) hown
          have hlen : (ByteArray.mk (insL s k m c).toArray).size ≤ maxLen := by
            show (insL s k m c).toArray.size ≤ maxLen
            rw [List.size_toArray, insL_length s k m c hm hms]; unfold maxLen; omega
          have HD : Hid (dgs (insL s k m c) = (s.data.toList.all dB && dB c)) := dgs_ins s k m c hlt
          clear hown
          go_wp2_with (first | (go_at_call 6; refine (zz_any _ _ (by first | exact hlen | exact hml)).mono ?_; rintro e w' ⟨rfl, rfl⟩) | (go_at_call 7; refine (dec_any _ _).mono ?_; rintro e w' ⟨rfl, rfl⟩))
          go_ret
          exact ⟨ret_bool (ins_yes HD.out (all_empty s hne)), hbel⟩

end Go.Proofs.Qxb6609058a
