import Derived.Test.Qxb6614527aLawT
namespace Go.Proofs.Qxb6614527a
open Go.RowKit
set_option linter.unusedVariables false

set_option maxHeartbeats 4000000 in
set_option maxRecDepth 100000 in
theorem tag_none (ini : ByteArray) (A : Option Addr) (len cap : Nat) (V : Nat → ByteArray) (w : World) (hi : ini.size ≤ maxLen) (hl : len ≤ maxLen) (hV : ∀ i, (V i).size ≤ maxLen) (h0 : Hid (len = 0)) :
    Calls Try.prog 3 #[.bool false, .string ini, .slice A len cap] w fun e w' => e = .returned (.bool true) ∧ Below w.heap.size w w' := by
  unfold maxLen at hi hl
  have HV : Hid (∀ i, (V i).size ≤ maxLen) := hV
  clear hV
  go_enter Try.func3, Try.ntmps3
  go_wp2_with fail
  refine (bytes_none _ ini A len cap V _ (by unfold maxLen; omega) (by unfold maxLen; omega) HV.out h0.out).mono ?_
  rintro e w' ⟨⟨bb, rfl⟩, rfl⟩
  cases bb
  · go_wp2_with fail
    go_ret
    exact ⟨rfl, Below.refl _ _⟩
  by_cases g1 : ini.size ≤ 1048576
  case neg =>
    have g1' : 1048576 < ini.size := by omega
    go_wp2_with fail
    go_ret
    exact ⟨rfl, Below.refl _ _⟩
  by_cases g2 : len ≤ 1048576
  case neg =>
    have g2' : 1048576 < len := by omega
    go_wp2_with fail
    go_ret
    exact ⟨rfl, Below.refl _ _⟩
  by_cases g3 : ini.size + 16 * len ≤ 1048576
  case neg =>
    have g3' : 1048576 < (ini.size : Int) + 16 * (len : Int) := by omega
    go_wp2_with fail
    go_ret
    exact ⟨rfl, Below.refl _ _⟩
  have g3' : (ini.size : Int) + 16 * (len : Int) ≤ 1048576 := by omega
  go_wp2_with fail
  go_loop [7, 8] (fun z i => ∃ k z' : Nat, k ≤ len ∧ z' ≤ 1048576 ∧ i = .int .i64 k ∧ z = .int .i64 z') (fun _ i => len - (intOf i).toNat)
  case atStart => exact ⟨0, ini.size + 16 * len, Nat.zero_le _, by omega, rfl, by go_num⟩
  case round =>
    obtain ⟨k, z, hk, hz, rfl, rfl⟩ := hrel
    by_cases hlt : k < len
    · have := h0.out; omega
    · go_wp2_with fail
      have hst := tagst_start w ini
      revert hst
      generalize ((((w.alloc (.cells #[.string ini, .bool false] 26)).alloc (.cells #[.bool false, .slice (some ⟨w.heap.size, 0, none⟩) 1 1] 29)).alloc (.cells #[.pointer (some ⟨w.heap.size + 1, 0, none⟩), .pointer none, .pointer none] 32)).alloc (.cells #[.bool true, .string ini, .bool false, .int .u64 0, .int .i64 0, .pointer none] 38)) = W0
      intro hst
      go_loopw [12, 13, 14] (fun fr wi i wr => ∃ (k wn : Nat) (f : Bool) (cur : ByteArray), k ≤ len ∧ i = .int .i64 k ∧ fr = .bool f ∧ wi = .int .i64 wn ∧ wn ≤ k ∧ TagSt w ini cur wr ∧ Won ini cur f k wn) (fun _ _ i _ => len - (intOf i).toNat)
      case atStart => exact ⟨0, 0, true, ini, Nat.zero_le _, rfl, rfl, rfl, Nat.le_refl _, hst, fun _ => Or.inl ⟨rfl, rfl, by simp⟩⟩
      case round =>
        clear hst
        obtain ⟨q, wn, f, cur, hq, rfl, rfl, rfl, hwn, hst, hwon⟩ := hrel
        by_cases hlq : q < len
        · have := h0.out; omega
        · have hbel := hst.bel
          have HWON : Hid (Won ini cur f q wn) := hwon
          clear hst hwon
          go_wp2_with fail
          all_goals go_ret
          all_goals first
            | exact ⟨rfl, hbel⟩
            | exact (won_end HWON.out hq hlq ‹_› ‹_› ‹_›).elim

/-- The writers' memory where all ask for a resource that is not there. -/
structure NewSt (w : World) (ex : Bool) (cur : ByteArray) (wr : World) : Prop where
  t0 : wr.cell? ⟨w.heap.size + 1 + 1 + 1 + 1, 0, none⟩ = some (.bool true)
  c0 : wr.cell? ⟨w.heap.size + 1 + 1, 0, none⟩ = some (.pointer none)
  c1 : wr.cell? ⟨w.heap.size + 1 + 1, 1, none⟩ = some (.pointer (some ⟨w.heap.size + 1 + 1 + 1 + 1, 0, none⟩))
  c2 : wr.cell? ⟨w.heap.size + 1 + 1, 2, none⟩ = some (.pointer none)
  r0 : wr.cell? ⟨w.heap.size + 1 + 1 + 1, 0, none⟩ = some (.bool ex)
  r1 : wr.cell? ⟨w.heap.size + 1 + 1 + 1, 1, none⟩ = some (.string cur)
  r2 : wr.cell? ⟨w.heap.size + 1 + 1 + 1, 2, none⟩ = some (.bool false)
  r3 : wr.cell? ⟨w.heap.size + 1 + 1 + 1, 3, none⟩ = some (.int .u64 0)
  r4 : wr.cell? ⟨w.heap.size + 1 + 1 + 1, 4, none⟩ = some (.int .i64 0)
  r5 : wr.cell? ⟨w.heap.size + 1 + 1 + 1, 5, none⟩ = some (.pointer none)
  f0 : wr.frozen? ⟨w.heap.size + 1 + 1 + 1, 0, none⟩ = false
  f1 : wr.frozen? ⟨w.heap.size + 1 + 1 + 1, 1, none⟩ = false
  f2 : wr.frozen? ⟨w.heap.size + 1 + 1 + 1, 2, none⟩ = false
  f3 : wr.frozen? ⟨w.heap.size + 1 + 1 + 1, 3, none⟩ = false
  f4 : wr.frozen? ⟨w.heap.size + 1 + 1 + 1, 4, none⟩ = false
  f5 : wr.frozen? ⟨w.heap.size + 1 + 1 + 1, 5, none⟩ = false
  size : w.heap.size + 1 + 1 + 1 + 1 < wr.heap.size
  bel : Below w.heap.size w wr

theorem NewSt.keep {w wr w' : World} {ex : Bool} {cur : ByteArray} (h : NewSt w ex cur wr) (hb : Below wr.heap.size wr w') : NewSt w ex cur w' :=
  have z := h.size
  ⟨(hb.cell (p := ⟨w.heap.size + 1 + 1 + 1 + 1, 0, none⟩) (by show w.heap.size + 1 + 1 + 1 + 1 < wr.heap.size; omega)).trans h.t0, (hb.cell (p := ⟨w.heap.size + 1 + 1, 0, none⟩) (by show w.heap.size + 1 + 1 < wr.heap.size; omega)).trans h.c0, (hb.cell (p := ⟨w.heap.size + 1 + 1, 1, none⟩) (by show w.heap.size + 1 + 1 < wr.heap.size; omega)).trans h.c1, (hb.cell (p := ⟨w.heap.size + 1 + 1, 2, none⟩) (by show w.heap.size + 1 + 1 < wr.heap.size; omega)).trans h.c2, (hb.cell (p := ⟨w.heap.size + 1 + 1 + 1, 0, none⟩) (by show w.heap.size + 1 + 1 + 1 < wr.heap.size; omega)).trans h.r0, (hb.cell (p := ⟨w.heap.size + 1 + 1 + 1, 1, none⟩) (by show w.heap.size + 1 + 1 + 1 < wr.heap.size; omega)).trans h.r1, (hb.cell (p := ⟨w.heap.size + 1 + 1 + 1, 2, none⟩) (by show w.heap.size + 1 + 1 + 1 < wr.heap.size; omega)).trans h.r2, (hb.cell (p := ⟨w.heap.size + 1 + 1 + 1, 3, none⟩) (by show w.heap.size + 1 + 1 + 1 < wr.heap.size; omega)).trans h.r3, (hb.cell (p := ⟨w.heap.size + 1 + 1 + 1, 4, none⟩) (by show w.heap.size + 1 + 1 + 1 < wr.heap.size; omega)).trans h.r4, (hb.cell (p := ⟨w.heap.size + 1 + 1 + 1, 5, none⟩) (by show w.heap.size + 1 + 1 + 1 < wr.heap.size; omega)).trans h.r5, (hb.frozen (p := ⟨w.heap.size + 1 + 1 + 1, 0, none⟩) (by show w.heap.size + 1 + 1 + 1 < wr.heap.size; omega)).trans h.f0, (hb.frozen (p := ⟨w.heap.size + 1 + 1 + 1, 1, none⟩) (by show w.heap.size + 1 + 1 + 1 < wr.heap.size; omega)).trans h.f1, (hb.frozen (p := ⟨w.heap.size + 1 + 1 + 1, 2, none⟩) (by show w.heap.size + 1 + 1 + 1 < wr.heap.size; omega)).trans h.f2, (hb.frozen (p := ⟨w.heap.size + 1 + 1 + 1, 3, none⟩) (by show w.heap.size + 1 + 1 + 1 < wr.heap.size; omega)).trans h.f3, (hb.frozen (p := ⟨w.heap.size + 1 + 1 + 1, 4, none⟩) (by show w.heap.size + 1 + 1 + 1 < wr.heap.size; omega)).trans h.f4, (hb.frozen (p := ⟨w.heap.size + 1 + 1 + 1, 5, none⟩) (by show w.heap.size + 1 + 1 + 1 < wr.heap.size; omega)).trans h.f5, by have := hb.size; omega, h.bel.trans (hb.mono h.bel.size)⟩
theorem NewSt.alloc {w wr : World} {ex : Bool} {cur : ByteArray} (h : NewSt w ex cur wr) (o : Obj) : NewSt w ex cur (wr.alloc o) := h.keep ((Below.refl _ _).alloc (Nat.le_refl _) _)
theorem NewSt.put {w wr : World} {ex : Bool} {cur : ByteArray} (h : NewSt w ex cur wr) (v : ByteArray) : NewSt w true v (((((((wr).setCell ⟨w.heap.size + 1 + 1 + 1, 0, none⟩ (.bool true)).setCell ⟨w.heap.size + 1 + 1 + 1, 1, none⟩ (.string v)).setCell ⟨w.heap.size + 1 + 1 + 1, 2, none⟩ (.bool false)).setCell ⟨w.heap.size + 1 + 1 + 1, 3, none⟩ (.int .u64 0)).setCell ⟨w.heap.size + 1 + 1 + 1, 4, none⟩ (.int .i64 0)).setCell ⟨w.heap.size + 1 + 1 + 1, 5, none⟩ (.pointer none)) := by
  obtain ⟨ht0, hc0, hc1, hc2, hr0, hr1, hr2, hr3, hr4, hr5, hf0, hf1, hf2, hf3, hf4, hf5, hz, hb⟩ := h
  obtain ⟨W1, hW1⟩ : ∃ W1, W1 = wr.setCell ⟨w.heap.size + 1 + 1 + 1, 0, none⟩ (.bool true) := ⟨_, rfl⟩
  have p1 := step_cell hW1 (hr0)
  have z1 : W1.heap.size = wr.heap.size := by rw [hW1]; simp
  have b1 : Below w.heap.size w W1 := by rw [hW1]; exact hb.setCell (by show w.heap.size ≤ w.heap.size + 1 + 1 + 1; omega) _
  rw [← hW1]
  obtain ⟨W2, hW2⟩ : ∃ W2, W2 = W1.setCell ⟨w.heap.size + 1 + 1 + 1, 1, none⟩ (.string v) := ⟨_, rfl⟩
  have p2 := step_cell hW2 ((p1.1 1 (by omega)).trans (hr1))
  have z2 : W2.heap.size = wr.heap.size := by rw [hW2]; simp; rw [z1]
  have b2 : Below w.heap.size w W2 := by rw [hW2]; exact b1.setCell (by show w.heap.size ≤ w.heap.size + 1 + 1 + 1; omega) _
  rw [← hW2]
  obtain ⟨W3, hW3⟩ : ∃ W3, W3 = W2.setCell ⟨w.heap.size + 1 + 1 + 1, 2, none⟩ (.bool false) := ⟨_, rfl⟩
  have p3 := step_cell hW3 ((p2.1 2 (by omega)).trans ((p1.1 2 (by omega)).trans (hr2)))
  have z3 : W3.heap.size = wr.heap.size := by rw [hW3]; simp; rw [z2]
  have b3 : Below w.heap.size w W3 := by rw [hW3]; exact b2.setCell (by show w.heap.size ≤ w.heap.size + 1 + 1 + 1; omega) _
  rw [← hW3]
  obtain ⟨W4, hW4⟩ : ∃ W4, W4 = W3.setCell ⟨w.heap.size + 1 + 1 + 1, 3, none⟩ (.int .u64 0) := ⟨_, rfl⟩
  have p4 := step_cell hW4 ((p3.1 3 (by omega)).trans ((p2.1 3 (by omega)).trans ((p1.1 3 (by omega)).trans (hr3))))
  have z4 : W4.heap.size = wr.heap.size := by rw [hW4]; simp; rw [z3]
  have b4 : Below w.heap.size w W4 := by rw [hW4]; exact b3.setCell (by show w.heap.size ≤ w.heap.size + 1 + 1 + 1; omega) _
  rw [← hW4]
  obtain ⟨W5, hW5⟩ : ∃ W5, W5 = W4.setCell ⟨w.heap.size + 1 + 1 + 1, 4, none⟩ (.int .i64 0) := ⟨_, rfl⟩
  have p5 := step_cell hW5 ((p4.1 4 (by omega)).trans ((p3.1 4 (by omega)).trans ((p2.1 4 (by omega)).trans ((p1.1 4 (by omega)).trans (hr4)))))
  have z5 : W5.heap.size = wr.heap.size := by rw [hW5]; simp; rw [z4]
  have b5 : Below w.heap.size w W5 := by rw [hW5]; exact b4.setCell (by show w.heap.size ≤ w.heap.size + 1 + 1 + 1; omega) _
  rw [← hW5]
  obtain ⟨W6, hW6⟩ : ∃ W6, W6 = W5.setCell ⟨w.heap.size + 1 + 1 + 1, 5, none⟩ (.pointer none) := ⟨_, rfl⟩
  have p6 := step_cell hW6 ((p5.1 5 (by omega)).trans ((p4.1 5 (by omega)).trans ((p3.1 5 (by omega)).trans ((p2.1 5 (by omega)).trans ((p1.1 5 (by omega)).trans (hr5))))))
  have z6 : W6.heap.size = wr.heap.size := by rw [hW6]; simp; rw [z5]
  have b6 : Below w.heap.size w W6 := by rw [hW6]; exact b5.setCell (by show w.heap.size ≤ w.heap.size + 1 + 1 + 1; omega) _
  rw [← hW6]
  exact ⟨(p6.2.2.2 (w.heap.size + 1 + 1 + 1 + 1) 0 (by omega)).trans ((p5.2.2.2 (w.heap.size + 1 + 1 + 1 + 1) 0 (by omega)).trans ((p4.2.2.2 (w.heap.size + 1 + 1 + 1 + 1) 0 (by omega)).trans ((p3.2.2.2 (w.heap.size + 1 + 1 + 1 + 1) 0 (by omega)).trans ((p2.2.2.2 (w.heap.size + 1 + 1 + 1 + 1) 0 (by omega)).trans ((p1.2.2.2 (w.heap.size + 1 + 1 + 1 + 1) 0 (by omega)).trans (ht0)))))), (p6.2.2.2 (w.heap.size + 1 + 1) 0 (by omega)).trans ((p5.2.2.2 (w.heap.size + 1 + 1) 0 (by omega)).trans ((p4.2.2.2 (w.heap.size + 1 + 1) 0 (by omega)).trans ((p3.2.2.2 (w.heap.size + 1 + 1) 0 (by omega)).trans ((p2.2.2.2 (w.heap.size + 1 + 1) 0 (by omega)).trans ((p1.2.2.2 (w.heap.size + 1 + 1) 0 (by omega)).trans (hc0)))))), (p6.2.2.2 (w.heap.size + 1 + 1) 1 (by omega)).trans ((p5.2.2.2 (w.heap.size + 1 + 1) 1 (by omega)).trans ((p4.2.2.2 (w.heap.size + 1 + 1) 1 (by omega)).trans ((p3.2.2.2 (w.heap.size + 1 + 1) 1 (by omega)).trans ((p2.2.2.2 (w.heap.size + 1 + 1) 1 (by omega)).trans ((p1.2.2.2 (w.heap.size + 1 + 1) 1 (by omega)).trans (hc1)))))), (p6.2.2.2 (w.heap.size + 1 + 1) 2 (by omega)).trans ((p5.2.2.2 (w.heap.size + 1 + 1) 2 (by omega)).trans ((p4.2.2.2 (w.heap.size + 1 + 1) 2 (by omega)).trans ((p3.2.2.2 (w.heap.size + 1 + 1) 2 (by omega)).trans ((p2.2.2.2 (w.heap.size + 1 + 1) 2 (by omega)).trans ((p1.2.2.2 (w.heap.size + 1 + 1) 2 (by omega)).trans (hc2)))))), (p6.1 0 (by omega)).trans ((p5.1 0 (by omega)).trans ((p4.1 0 (by omega)).trans ((p3.1 0 (by omega)).trans ((p2.1 0 (by omega)).trans (p1.2.1))))), (p6.1 1 (by omega)).trans ((p5.1 1 (by omega)).trans ((p4.1 1 (by omega)).trans ((p3.1 1 (by omega)).trans (p2.2.1)))), (p6.1 2 (by omega)).trans ((p5.1 2 (by omega)).trans ((p4.1 2 (by omega)).trans (p3.2.1))), (p6.1 3 (by omega)).trans ((p5.1 3 (by omega)).trans (p4.2.1)), (p6.1 4 (by omega)).trans (p5.2.1), p6.2.1, (p6.2.2.1 0).trans ((p5.2.2.1 0).trans ((p4.2.2.1 0).trans ((p3.2.2.1 0).trans ((p2.2.2.1 0).trans ((p1.2.2.1 0).trans (hf0)))))), (p6.2.2.1 1).trans ((p5.2.2.1 1).trans ((p4.2.2.1 1).trans ((p3.2.2.1 1).trans ((p2.2.2.1 1).trans ((p1.2.2.1 1).trans (hf1)))))), (p6.2.2.1 2).trans ((p5.2.2.1 2).trans ((p4.2.2.1 2).trans ((p3.2.2.1 2).trans ((p2.2.2.1 2).trans ((p1.2.2.1 2).trans (hf2)))))), (p6.2.2.1 3).trans ((p5.2.2.1 3).trans ((p4.2.2.1 3).trans ((p3.2.2.1 3).trans ((p2.2.2.1 3).trans ((p1.2.2.1 3).trans (hf3)))))), (p6.2.2.1 4).trans ((p5.2.2.1 4).trans ((p4.2.2.1 4).trans ((p3.2.2.1 4).trans ((p2.2.2.1 4).trans ((p1.2.2.1 4).trans (hf4)))))), (p6.2.2.1 5).trans ((p5.2.2.1 5).trans ((p4.2.2.1 5).trans ((p3.2.2.1 5).trans ((p2.2.2.1 5).trans ((p1.2.2.1 5).trans (hf5)))))), by rw [z6]; exact hz, b6⟩

theorem newst_start (w : World) (ini : ByteArray) : NewSt w false ⟨#[]⟩ (((((w.alloc (.cells #[.string ini, .bool false] 26)).alloc (.cells #[.bool false, .slice (some ⟨w.heap.size, 0, none⟩) 1 1] 29)).alloc (.cells #[.pointer none, .pointer (some ⟨w.heap.size + 1 + 1 + 1 + 1, 0, none⟩), .pointer none] 32)).alloc (.cells #[.bool false, .string ⟨#[]⟩, .bool false, .int .u64 0, .int .i64 0, .pointer none] 38)).alloc (.cells #[.bool true, .slice none 0 0] 29)) := by
  refine ⟨?_, ?_, ?_, ?_, ?_, ?_, ?_, ?_, ?_, ?_, ?_, ?_, ?_, ?_, ?_, ?_, by simp, (((((Below.refl _ _).alloc (Nat.le_refl _) _).alloc (by simp) _).alloc (by simp; omega) _).alloc (by simp; omega) _).alloc (by simp; omega) _⟩
  all_goals go_simp

/-- The first writer, and no other, wins. -/
def First (ex : Bool) (k wn : Nat) : Prop := (k = 0 ∧ wn = 0 ∧ ex = false) ∨ (0 < k ∧ wn = 1 ∧ ex = true)
theorem first_fail {k wn : Nat} (h : First true k wn) : First true (k + 1) wn := by
  rcases h with ⟨_, _, h3⟩ | ⟨h1, h2, h3⟩
  · cases h3
  · exact Or.inr ⟨by omega, h2, h3⟩
theorem first_win {k wn : Nat} (h : First false k wn) : First true (k + 1) (wn + 1) := by
  rcases h with ⟨_, h2, _⟩ | ⟨_, _, h3⟩
  · exact Or.inr ⟨by omega, by omega, rfl⟩
  · cases h3
theorem first_end {ex : Bool} {q len wn : Nat} (h : First ex q wn) (h1 : q ≤ len) (h2 : ¬ q < len) (hl : 0 < len) (hw : ((wn : Int) != 1) = true) : False := by
  rcases h with ⟨h3, _, _⟩ | ⟨_, h4, _⟩
  · omega
  · subst h4; simp at hw

set_option maxHeartbeats 4000000 in
set_option maxRecDepth 100000 in
theorem new_some (ini : ByteArray) (b off len cap : Nat) (V : Nat → ByteArray) (w : World) (hi : ini.size ≤ maxLen) (hl : len ≤ maxLen) (hV : ∀ i, (V i).size ≤ maxLen) (hbw : b < w.heap.size) (hc : ∀ i, i < len → w.cell? ⟨b, off + i, none⟩ = some (.string (V i))) :
    Calls Try.prog 3 #[.bool true, .string ini, .slice (some ⟨b, off, none⟩) len cap] w fun e w' => e = .returned (.bool true) ∧ Below w.heap.size w w' := by
  unfold maxLen at hi hl
  have HV : Hid (∀ i, (V i).size ≤ maxLen) := hV
  clear hV
  go_enter Try.func3, Try.ntmps3
  go_wp2_with fail
  refine (bytes_some _ ini b off len cap V _ (by unfold maxLen; omega) (by unfold maxLen; omega) HV.out hc).mono ?_
  rintro e w' ⟨⟨bb, rfl⟩, rfl⟩
  cases bb
  · go_wp2_with fail
    go_ret
    exact ⟨rfl, Below.refl _ _⟩
  by_cases g1 : ini.size ≤ 1048576
  case neg =>
    have g1' : 1048576 < ini.size := by omega
    go_wp2_with fail
    go_ret
    exact ⟨rfl, Below.refl _ _⟩
  by_cases g2 : len ≤ 1048576
  case neg =>
    have g2' : 1048576 < len := by omega
    go_wp2_with fail
    go_ret
    exact ⟨rfl, Below.refl _ _⟩
  by_cases g3 : ini.size + 16 * len ≤ 1048576
  case neg =>
    have g3' : 1048576 < (ini.size : Int) + 16 * (len : Int) := by omega
    go_wp2_with fail
    go_ret
    exact ⟨rfl, Below.refl _ _⟩
  have g3' : (ini.size : Int) + 16 * (len : Int) ≤ 1048576 := by omega
  go_wp2_with fail
  go_loop [7, 8] (fun z i => ∃ k z' : Nat, k ≤ len ∧ z' ≤ 1048576 ∧ i = .int .i64 k ∧ z = .int .i64 z') (fun _ i => len - (intOf i).toNat)
  case atStart => exact ⟨0, ini.size + 16 * len, Nat.zero_le _, by omega, rfl, by go_num⟩
  case round =>
    obtain ⟨k, z, hk, hz, rfl, rfl⟩ := hrel
    by_cases hlt : k < len
    · have hx := hc k hlt
      have hv := HV.out k
      unfold maxLen at hv
      go_wp2_with fail
      · go_ret
        exact ⟨rfl, Below.refl _ _⟩
      · go_ret
        exact ⟨rfl, Below.refl _ _⟩
      · go_round
        case rel => exact ⟨k + 1, z + (V k).size, by omega, by omega, by go_num, by go_num⟩
        case measure => simp [intOf]; omega
    · go_wp2_with fail
      have hst := newst_start w ini
      revert hst
      generalize (((((w.alloc (.cells #[.string ini, .bool false] 26)).alloc (.cells #[.bool false, .slice (some ⟨w.heap.size, 0, none⟩) 1 1] 29)).alloc (.cells #[.pointer none, .pointer (some ⟨w.heap.size + 1 + 1 + 1 + 1, 0, none⟩), .pointer none] 32)).alloc (.cells #[.bool false, .string ⟨#[]⟩, .bool false, .int .u64 0, .int .i64 0, .pointer none] 38)).alloc (.cells #[.bool true, .slice none 0 0] 29)) = W0
      intro hst
      go_loopw [12, 13, 14] (fun fr wi i wr => ∃ (k wn : Nat) (f ex : Bool) (cur : ByteArray), k ≤ len ∧ i = .int .i64 k ∧ fr = .bool f ∧ wi = .int .i64 wn ∧ wn ≤ k ∧ NewSt w ex cur wr ∧ First ex k wn) (fun _ _ i _ => len - (intOf i).toNat)
      case atStart => exact ⟨0, 0, true, false, _, Nat.zero_le _, rfl, rfl, rfl, Nat.le_refl _, hst, Or.inl ⟨rfl, rfl, rfl⟩⟩
      case round =>
        clear hst
        obtain ⟨q, wn, f, ex, cur, hq, rfl, rfl, rfl, hwn, hst, hwon⟩ := hrel
        by_cases hlq : q < len
        · have hx := (hst.bel.cell (p := ⟨b, off + q, none⟩) hbw).trans (hc q hlq)
          have hpt := ptr_same
          cases ex
          all_goals
            have HST : Hid (NewSt w _ cur wr) := hst
            have HWON : Hid (First _ q wn) := hwon
            obtain ⟨t0, c0, c1, c2, r0, r1, r2, r3, r4, r5, f0, f1, f2, f3, f4, f5, hz, hbel⟩ := hst
            clear hwon
            cases hv : ((V q).toList == ini.toList)
            all_goals
              go_wp2_with fail
              refine (zz_none _ _ cur _ t0).mono ?_
              rintro e w2 ⟨rfl, hb2⟩
              have hst2 := HST.out.keep hb2
              have HST2 : Hid (NewSt w _ cur w2) := hst2
              have R0 := hst2.r0
              have R1 := hst2.r1
              have R2 := hst2.r2
              have R3 := hst2.r3
              have R4 := hst2.r4
              have R5 := hst2.r5
              have F0 := hst2.f0
              have F1 := hst2.f1
              have F2 := hst2.f2
              have F3 := hst2.f3
              have F4 := hst2.f4
              have F5 := hst2.f5
              have HZ0 := hst2.size
              have HZ : w.heap.size + 1 + 1 + 1 < w2.heap.size := by omega
              have hx2 := (hst2.bel.cell (p := ⟨b, off + q, none⟩) hbw).trans (hc q hlq)
              have hbz : b < w2.heap.size := Nat.lt_of_lt_of_le hbw hst2.bel.size
              have hnb : ¬ w.heap.size + 1 + 1 + 1 = b := by omega
              have z1 : w.heap.size + 1 + 1 + 1 < w2.heap.size + 1 := by omega
              have z3 : w.heap.size + 1 + 1 < w2.heap.size := by omega
              have z4 : ¬ w.heap.size + 1 + 1 + 1 = w2.heap.size := by omega
              have z5 : ¬ w.heap.size + 1 + 1 + 1 = w2.heap.size + 1 := by omega
              have z6 : ¬ w.heap.size + 1 + 1 = w2.heap.size := by omega
              have y1 : b < w2.heap.size + 1 := by omega
              clear hst2 hb2
              simp only [zzOut, dProceed, rZero, sNone, if_true, if_false, Bool.false_eq_true]
              go_wp2_with fail
          · go_roundw
            case rel => exact ⟨q + 1, wn + 1, f, true, V q, by omega, by go_num, rfl, by go_num, by omega, ((HST2.out.put _).alloc _).alloc _, first_win HWON.out⟩
            case measure => simp [intOf]; omega
          · go_roundw
            case rel => exact ⟨q + 1, wn + 1, false, true, V q, by omega, by go_num, rfl, by go_num, by omega, ((HST2.out.put _).alloc _).alloc _, first_win HWON.out⟩
            case measure => simp [intOf]; omega
          · go_roundw
            case rel => exact ⟨q + 1, wn, f, true, cur, by omega, by go_num, rfl, rfl, by omega, (HST2.out.alloc _).alloc _, first_fail HWON.out⟩
            case measure => simp [intOf]; omega
          · go_roundw
            case rel => exact ⟨q + 1, wn, false, true, cur, by omega, by go_num, rfl, rfl, by omega, (HST2.out.alloc _).alloc _, first_fail HWON.out⟩
            case measure => simp [intOf]; omega
        · have hbel := hst.bel
          have HWON : Hid (First ex q wn) := hwon
          clear hst hwon
          go_wp2_with fail
          all_goals go_ret
          all_goals first
            | exact ⟨rfl, hbel⟩
            | exact (first_end HWON.out hq hlq ‹_› ‹_›).elim

set_option maxHeartbeats 4000000 in
set_option maxRecDepth 100000 in
theorem new_none (ini : ByteArray) (A : Option Addr) (len cap : Nat) (V : Nat → ByteArray) (w : World) (hi : ini.size ≤ maxLen) (hl : len ≤ maxLen) (hV : ∀ i, (V i).size ≤ maxLen) (h0 : Hid (len = 0)) :
    Calls Try.prog 3 #[.bool true, .string ini, .slice A len cap] w fun e w' => e = .returned (.bool true) ∧ Below w.heap.size w w' := by
  unfold maxLen at hi hl
  have HV : Hid (∀ i, (V i).size ≤ maxLen) := hV
  clear hV
  go_enter Try.func3, Try.ntmps3
  go_wp2_with fail
  refine (bytes_none _ ini A len cap V _ (by unfold maxLen; omega) (by unfold maxLen; omega) HV.out h0.out).mono ?_
  rintro e w' ⟨⟨bb, rfl⟩, rfl⟩
  cases bb
  · go_wp2_with fail
    go_ret
    exact ⟨rfl, Below.refl _ _⟩
  by_cases g1 : ini.size ≤ 1048576
  case neg =>
    have g1' : 1048576 < ini.size := by omega
    go_wp2_with fail
    go_ret
    exact ⟨rfl, Below.refl _ _⟩
  by_cases g2 : len ≤ 1048576
  case neg =>
    have g2' : 1048576 < len := by omega
    go_wp2_with fail
    go_ret
    exact ⟨rfl, Below.refl _ _⟩
  by_cases g3 : ini.size + 16 * len ≤ 1048576
  case neg =>
    have g3' : 1048576 < (ini.size : Int) + 16 * (len : Int) := by omega
    go_wp2_with fail
    go_ret
    exact ⟨rfl, Below.refl _ _⟩
  have g3' : (ini.size : Int) + 16 * (len : Int) ≤ 1048576 := by omega
  go_wp2_with fail
  go_loop [7, 8] (fun z i => ∃ k z' : Nat, k ≤ len ∧ z' ≤ 1048576 ∧ i = .int .i64 k ∧ z = .int .i64 z') (fun _ i => len - (intOf i).toNat)
  case atStart => exact ⟨0, ini.size + 16 * len, Nat.zero_le _, by omega, rfl, by go_num⟩
  case round =>
    obtain ⟨k, z, hk, hz, rfl, rfl⟩ := hrel
    by_cases hlt : k < len
    · have := h0.out; omega
    · go_wp2_with fail
      have hst := newst_start w ini
      revert hst
      generalize (((((w.alloc (.cells #[.string ini, .bool false] 26)).alloc (.cells #[.bool false, .slice (some ⟨w.heap.size, 0, none⟩) 1 1] 29)).alloc (.cells #[.pointer none, .pointer (some ⟨w.heap.size + 1 + 1 + 1 + 1, 0, none⟩), .pointer none] 32)).alloc (.cells #[.bool false, .string ⟨#[]⟩, .bool false, .int .u64 0, .int .i64 0, .pointer none] 38)).alloc (.cells #[.bool true, .slice none 0 0] 29)) = W0
      intro hst
      go_loopw [12, 13, 14] (fun fr wi i wr => ∃ (k wn : Nat) (f ex : Bool) (cur : ByteArray), k ≤ len ∧ i = .int .i64 k ∧ fr = .bool f ∧ wi = .int .i64 wn ∧ wn ≤ k ∧ NewSt w ex cur wr ∧ First ex k wn) (fun _ _ i _ => len - (intOf i).toNat)
      case atStart => exact ⟨0, 0, true, false, _, Nat.zero_le _, rfl, rfl, rfl, Nat.le_refl _, hst, Or.inl ⟨rfl, rfl, rfl⟩⟩
      case round =>
        clear hst
        obtain ⟨q, wn, f, ex, cur, hq, rfl, rfl, rfl, hwn, hst, hwon⟩ := hrel
        by_cases hlq : q < len
        · have := h0.out; omega
        · have hbel := hst.bel
          have HWON : Hid (First ex q wn) := hwon
          clear hst hwon
          go_wp2_with fail
          all_goals go_ret
          all_goals first
            | exact ⟨rfl, hbel⟩
            | exact (first_end HWON.out hq hlq ‹_› ‹_›).elim

end Go.Proofs.Qxb6614527a
