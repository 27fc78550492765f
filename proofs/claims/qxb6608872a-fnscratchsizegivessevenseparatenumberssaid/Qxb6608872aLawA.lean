import Derived.Test.Qxb6608872aScr
namespace Go.Proofs.Qxb6608872a
open Go.RowKit Go.Deep

set_option maxRecDepth 100000 in
theorem lawA_far (n m : Int) (w : World) (hn : -9223372036854775808 ≤ n ∧ n ≤ 9223372036854775807) (hm : -9223372036854775808 ≤ m ∧ m ≤ 9223372036854775807) (h : n < 0 ∨ 65536 < n ∨ m < 0 ∨ 65536 < m) :
    Calls Try.prog 3 #[.int .i64 n, .int .i64 m] w fun e w' => e = .returned (.bool true) ∧ Below w.heap.size w w' := by
  by_cases h1 : n < 0
  · go_enter Try.func3, Try.ntmps3
    go_wp2
    go_ret
    exact ⟨rfl, Below.refl _ _⟩
  · by_cases h2 : 65536 < n
    · go_enter Try.func3, Try.ntmps3
      go_wp2
      go_ret
      exact ⟨rfl, Below.refl _ _⟩
    · by_cases h3 : m < 0
      · go_enter Try.func3, Try.ntmps3
        go_wp2
        go_ret
        exact ⟨rfl, Below.refl _ _⟩
      · have h4 : 65536 < m := by omega
        go_enter Try.func3, Try.ntmps3
        go_wp2
        go_ret
        exact ⟨rfl, Below.refl _ _⟩

/-- The first k words of each number bear its mark. -/
def Marks (of : Nat → Nat) (F : Nat → Int) (k : Nat) : Prop := ∀ i, i < k → F (of 0 + i) = 1 ∧ F (of 1 + i) = 2 ∧ F (of 2 + i) = 3 ∧ F (of 3 + i) = 4 ∧ F (of 4 + i) = 5 ∧ F (of 5 + i) = 6 ∧ F (of 6 + i) = 7

theorem marks_step {of : Nat → Nat} {F : Nat → Int} {k c : Nat} (hk : k < c) (hof : ∀ j, j < 7 → of j = j * c) (h : Marks of F k) : Marks of (upd (upd (upd (upd (upd (upd (upd (F) (of 0 + k) 1) (of 1 + k) 2) (of 2 + k) 3) (of 3 + k) 4) (of 4 + k) 5) (of 5 + k) 6) (of 6 + k) 7) (k + 1) := by
  have o0 := hof 0 (by omega)
  have o1 := hof 1 (by omega)
  have o2 := hof 2 (by omega)
  have o3 := hof 3 (by omega)
  have o4 := hof 4 (by omega)
  have o5 := hof 5 (by omega)
  have o6 := hof 6 (by omega)
  intro i hi
  by_cases hik : i = k
  · subst hik
    refine ⟨?_, ?_, ?_, ?_, ?_, ?_, ?_⟩
    · rw [upd_ne (by omega), upd_ne (by omega), upd_ne (by omega), upd_ne (by omega), upd_ne (by omega), upd_ne (by omega), upd_eq]
    · rw [upd_ne (by omega), upd_ne (by omega), upd_ne (by omega), upd_ne (by omega), upd_ne (by omega), upd_eq]
    · rw [upd_ne (by omega), upd_ne (by omega), upd_ne (by omega), upd_ne (by omega), upd_eq]
    · rw [upd_ne (by omega), upd_ne (by omega), upd_ne (by omega), upd_eq]
    · rw [upd_ne (by omega), upd_ne (by omega), upd_eq]
    · rw [upd_ne (by omega), upd_eq]
    · rw [upd_eq]
  · have h1 := h i (by omega)
    refine ⟨?_, ?_, ?_, ?_, ?_, ?_, ?_⟩
    · rw [upd_ne (by omega), upd_ne (by omega), upd_ne (by omega), upd_ne (by omega), upd_ne (by omega), upd_ne (by omega), upd_ne (by omega)]; exact h1.1
    · rw [upd_ne (by omega), upd_ne (by omega), upd_ne (by omega), upd_ne (by omega), upd_ne (by omega), upd_ne (by omega), upd_ne (by omega)]; exact h1.2.1
    · rw [upd_ne (by omega), upd_ne (by omega), upd_ne (by omega), upd_ne (by omega), upd_ne (by omega), upd_ne (by omega), upd_ne (by omega)]; exact h1.2.2.1
    · rw [upd_ne (by omega), upd_ne (by omega), upd_ne (by omega), upd_ne (by omega), upd_ne (by omega), upd_ne (by omega), upd_ne (by omega)]; exact h1.2.2.2.1
    · rw [upd_ne (by omega), upd_ne (by omega), upd_ne (by omega), upd_ne (by omega), upd_ne (by omega), upd_ne (by omega), upd_ne (by omega)]; exact h1.2.2.2.2.1
    · rw [upd_ne (by omega), upd_ne (by omega), upd_ne (by omega), upd_ne (by omega), upd_ne (by omega), upd_ne (by omega), upd_ne (by omega)]; exact h1.2.2.2.2.2.1
    · rw [upd_ne (by omega), upd_ne (by omega), upd_ne (by omega), upd_ne (by omega), upd_ne (by omega), upd_ne (by omega), upd_ne (by omega)]; exact h1.2.2.2.2.2.2

theorem row_step {wr : World} {G k c : Nat} {of : Nat → Nat} {F : Nat → Int} (hk : k < c) (hof : ∀ j, j < 7 → of j = j * c) (h : Row wr G (7 * c) F) :
    (∃ z, (wr).cell? ⟨G, of 0 + k, none⟩ = some (.int .u64 z)) ∧ (∃ z, ((wr).setCell ⟨G, of 0 + k, none⟩ (.int .u64 1)).cell? ⟨G, of 1 + k, none⟩ = some (.int .u64 z)) ∧ (∃ z, (((wr).setCell ⟨G, of 0 + k, none⟩ (.int .u64 1)).setCell ⟨G, of 1 + k, none⟩ (.int .u64 2)).cell? ⟨G, of 2 + k, none⟩ = some (.int .u64 z)) ∧ (∃ z, ((((wr).setCell ⟨G, of 0 + k, none⟩ (.int .u64 1)).setCell ⟨G, of 1 + k, none⟩ (.int .u64 2)).setCell ⟨G, of 2 + k, none⟩ (.int .u64 3)).cell? ⟨G, of 3 + k, none⟩ = some (.int .u64 z)) ∧ (∃ z, (((((wr).setCell ⟨G, of 0 + k, none⟩ (.int .u64 1)).setCell ⟨G, of 1 + k, none⟩ (.int .u64 2)).setCell ⟨G, of 2 + k, none⟩ (.int .u64 3)).setCell ⟨G, of 3 + k, none⟩ (.int .u64 4)).cell? ⟨G, of 4 + k, none⟩ = some (.int .u64 z)) ∧ (∃ z, ((((((wr).setCell ⟨G, of 0 + k, none⟩ (.int .u64 1)).setCell ⟨G, of 1 + k, none⟩ (.int .u64 2)).setCell ⟨G, of 2 + k, none⟩ (.int .u64 3)).setCell ⟨G, of 3 + k, none⟩ (.int .u64 4)).setCell ⟨G, of 4 + k, none⟩ (.int .u64 5)).cell? ⟨G, of 5 + k, none⟩ = some (.int .u64 z)) ∧ (∃ z, (((((((wr).setCell ⟨G, of 0 + k, none⟩ (.int .u64 1)).setCell ⟨G, of 1 + k, none⟩ (.int .u64 2)).setCell ⟨G, of 2 + k, none⟩ (.int .u64 3)).setCell ⟨G, of 3 + k, none⟩ (.int .u64 4)).setCell ⟨G, of 4 + k, none⟩ (.int .u64 5)).setCell ⟨G, of 5 + k, none⟩ (.int .u64 6)).cell? ⟨G, of 6 + k, none⟩ = some (.int .u64 z)) ∧ Row ((((((((wr).setCell ⟨G, of 0 + k, none⟩ (.int .u64 1)).setCell ⟨G, of 1 + k, none⟩ (.int .u64 2)).setCell ⟨G, of 2 + k, none⟩ (.int .u64 3)).setCell ⟨G, of 3 + k, none⟩ (.int .u64 4)).setCell ⟨G, of 4 + k, none⟩ (.int .u64 5)).setCell ⟨G, of 5 + k, none⟩ (.int .u64 6)).setCell ⟨G, of 6 + k, none⟩ (.int .u64 7)) G (7 * c) (upd (upd (upd (upd (upd (upd (upd (F) (of 0 + k) 1) (of 1 + k) 2) (of 2 + k) 3) (of 3 + k) 4) (of 4 + k) 5) (of 5 + k) 6) (of 6 + k) 7) := by
  have o0 := hof 0 (by omega)
  have o1 := hof 1 (by omega)
  have o2 := hof 2 (by omega)
  have o3 := hof 3 (by omega)
  have o4 := hof 4 (by omega)
  have o5 := hof 5 (by omega)
  have o6 := hof 6 (by omega)
  have r1 := Row.set h (p := of 0 + k) (by omega) 1
  have r2 := Row.set r1 (p := of 1 + k) (by omega) 2
  have r3 := Row.set r2 (p := of 2 + k) (by omega) 3
  have r4 := Row.set r3 (p := of 3 + k) (by omega) 4
  have r5 := Row.set r4 (p := of 4 + k) (by omega) 5
  have r6 := Row.set r5 (p := of 5 + k) (by omega) 6
  have r7 := Row.set r6 (p := of 6 + k) (by omega) 7
  exact ⟨⟨_, (h (of 0 + k) (by omega)).1⟩, ⟨_, (r1 (of 1 + k) (by omega)).1⟩, ⟨_, (r2 (of 2 + k) (by omega)).1⟩, ⟨_, (r3 (of 3 + k) (by omega)).1⟩, ⟨_, (r4 (of 4 + k) (by omega)).1⟩, ⟨_, (r5 (of 5 + k) (by omega)).1⟩, ⟨_, (r6 (of 6 + k) (by omega)).1⟩, r7⟩

set_option maxHeartbeats 4000000 in
set_option maxRecDepth 100000 in
theorem lawA_near (n m : Nat) (w : World) (hn : n ≤ 65536) (hm : m ≤ 65536) :
    Calls Try.prog 3 #[.int .i64 n, .int .i64 m] w fun e w' => e = .returned (.bool true) ∧ Below w.heap.size w w' := by
  go_enter Try.func3, Try.ntmps3
  go_wp2_with fail
  refine (zznew_any _).mono ?_
  rintro e w' ⟨rfl, rfl⟩
  go_wp2_with fail
  refine (zzsize_of (fresh_new w hn) (fun _ _ h => h.1)).mono ?_
  rintro e w1 ⟨rfl, ⟨G, of, hr⟩, hg⟩
  go_wp2_with fail
  refine (fields_any hr).mono ?_
  rintro e w2 ⟨rfl, hr2, hg2⟩
  have hb2 : Below w.heap.size w w2 := below_grown (below_grown ((Below.refl _ _).alloc (Nat.le_refl _) _) (by simp) hg) (by have := hr.ltB; omega) hg2
  clear hr hg hg2
  unfold seven
  have HR2 : Hid (Ready w.heap.size G (n + 1) (n + 1) of (fun _ => 0) w2) := hr2
  clear hr2
  go_wp2_with fail
  go_loop [14] (fun i => ∃ k : Nat, k ≤ n + 1 ∧ i = .int .i64 k) (fun i => n + 1 - (intOf i).toNat)
  case atStart => exact ⟨0, Nat.zero_le _, rfl⟩
  case round =>
    obtain ⟨k, hk, rfl⟩ := hrel
    by_cases hlt : k < n + 1
    · have hlt2 : (k : Int) < (n : Int) + 1 := by omega
      have q0 : w2.cell? ⟨G, of 0 + k, none⟩ = some (.int .u64 0) := HR2.out.row.at (by have := HR2.out.off 0 (by omega); omega) rfl
      have q1 : w2.cell? ⟨G, of 1 + k, none⟩ = some (.int .u64 0) := HR2.out.row.at (by have := HR2.out.off 1 (by omega); omega) rfl
      have q2 : w2.cell? ⟨G, of 2 + k, none⟩ = some (.int .u64 0) := HR2.out.row.at (by have := HR2.out.off 2 (by omega); omega) rfl
      have q3 : w2.cell? ⟨G, of 3 + k, none⟩ = some (.int .u64 0) := HR2.out.row.at (by have := HR2.out.off 3 (by omega); omega) rfl
      have q4 : w2.cell? ⟨G, of 4 + k, none⟩ = some (.int .u64 0) := HR2.out.row.at (by have := HR2.out.off 4 (by omega); omega) rfl
      have q5 : w2.cell? ⟨G, of 5 + k, none⟩ = some (.int .u64 0) := HR2.out.row.at (by have := HR2.out.off 5 (by omega); omega) rfl
      have q6 : w2.cell? ⟨G, of 6 + k, none⟩ = some (.int .u64 0) := HR2.out.row.at (by have := HR2.out.off 6 (by omega); omega) rfl
      go_wp2_with fail
      go_round
      case rel => exact ⟨k + 1, by omega, by go_num⟩
      case measure => simp [intOf]; omega
    · have hlt2 : ¬ (k : Int) < (n : Int) + 1 := by omega
      go_wp2_with fail
      refine (ready_any HR2.out hm).mono ?_
      rintro e w3 ⟨rfl, ⟨G', c, of', F, hr3⟩, hg3⟩
      have hb3 := below_grown hb2 (by have := HR2.out.ltB; omega) hg3
      clear HR2 hg3 hb2
      go_wp2_with fail
      refine (fields_any hr3).mono ?_
      rintro e w4 ⟨rfl, hr4, hg4⟩
      have hb4 := below_grown hb3 (by have := hr3.ltB; omega) hg4
      have HR4 : Hid (Ready w.heap.size G' (m + 1) c of' F w4) := hr4
      clear hr3 hg4 hb3 hr4
      unfold seven
      have hmc : m + 1 ≤ c := HR4.out.kc
      go_wp2_with fail
      have hrow0 := HR4.out.row
      have HO : Hid (∀ j, j < 7 → of' j = j * c) := HR4.out.off
      have hGw : w.heap.size ≤ G' := Nat.le_of_lt HR4.out.hi
      clear HR4
      go_loopw [15] (fun i wr => ∃ (q : Nat) (F : Nat → Int), q ≤ m + 1 ∧ i = .int .i64 q ∧ Row wr G' (7 * c) F ∧ Marks of' F q ∧ Below w.heap.size w wr) (fun i _ => m + 1 - (intOf i).toNat)
      case atStart => exact ⟨0, F, Nat.zero_le _, rfl, hrow0, fun i hi => absurd hi (Nat.not_lt_zero i), hb4⟩
      case round =>
        clear hrow0 hb4
        obtain ⟨q, F', hq, rfl, hrow, hmk, hbel⟩ := hrel
        by_cases hlq : q < m + 1
        · have hlq2 : (q : Int) < (m : Int) + 1 := by omega
          have hqc : q < c := by omega
          obtain ⟨⟨z0, s0⟩, ⟨z1, s1⟩, ⟨z2, s2⟩, ⟨z3, s3⟩, ⟨z4, s4⟩, ⟨z5, s5⟩, ⟨z6, s6⟩, hrow7⟩ := row_step hqc HO.out hrow
          have y0 := hrow.fr (i := of' 0 + q) (by have := HO.out 0 (by omega); omega)
          have y1 := hrow.fr (i := of' 1 + q) (by have := HO.out 1 (by omega); omega)
          have y2 := hrow.fr (i := of' 2 + q) (by have := HO.out 2 (by omega); omega)
          have y3 := hrow.fr (i := of' 3 + q) (by have := HO.out 3 (by omega); omega)
          have y4 := hrow.fr (i := of' 4 + q) (by have := HO.out 4 (by omega); omega)
          have y5 := hrow.fr (i := of' 5 + q) (by have := HO.out 5 (by omega); omega)
          have y6 := hrow.fr (i := of' 6 + q) (by have := HO.out 6 (by omega); omega)
          have hbel7 := ((((((hbel.setCell (p := ⟨G', of' 0 + q, none⟩) hGw (.int .u64 1)).setCell (p := ⟨G', of' 1 + q, none⟩) hGw (.int .u64 2)).setCell (p := ⟨G', of' 2 + q, none⟩) hGw (.int .u64 3)).setCell (p := ⟨G', of' 3 + q, none⟩) hGw (.int .u64 4)).setCell (p := ⟨G', of' 4 + q, none⟩) hGw (.int .u64 5)).setCell (p := ⟨G', of' 5 + q, none⟩) hGw (.int .u64 6)).setCell (p := ⟨G', of' 6 + q, none⟩) hGw (.int .u64 7)
          have HROW : Hid _ := hrow7
          have HM : Hid _ := marks_step hqc HO.out hmk
          have HB : Hid _ := hbel7
          clear hrow hrow7 hmk hbel hbel7
          go_wp2_with fail
          go_roundw
          case rel => exact ⟨q + 1, _, by omega, by go_num, HROW.out, HM.out, HB.out⟩
          case measure => simp [intOf]; omega
        · have hlq2 : ¬ (q : Int) < (m : Int) + 1 := by omega
          have hqm : q = m + 1 := by omega
          subst hqm
          have HROW : Hid (Row wr G' (7 * c) F') := hrow
          have HM : Hid (Marks of' F' (m + 1)) := hmk
          clear hrow hmk
          go_wp2_with fail
          go_loop [16] (fun i => ∃ k : Nat, k ≤ m + 1 ∧ i = .int .i64 k) (fun i => m + 1 - (intOf i).toNat)
          case atStart => exact ⟨0, Nat.zero_le _, rfl⟩
          case round =>
            obtain ⟨p, hp, rfl⟩ := hrel
            by_cases hlp : p < m + 1
            · have hlp2 : (p : Int) < (m : Int) + 1 := by omega
              have hm1 := HM.out p hlp
              have x0 : wr.cell? ⟨G', of' 0 + p, none⟩ = some (.int .u64 1) := HROW.out.at (by have := HO.out 0 (by omega); omega) hm1.1
              have x1 : wr.cell? ⟨G', of' 1 + p, none⟩ = some (.int .u64 2) := HROW.out.at (by have := HO.out 1 (by omega); omega) hm1.2.1
              have x2 : wr.cell? ⟨G', of' 2 + p, none⟩ = some (.int .u64 3) := HROW.out.at (by have := HO.out 2 (by omega); omega) hm1.2.2.1
              have x3 : wr.cell? ⟨G', of' 3 + p, none⟩ = some (.int .u64 4) := HROW.out.at (by have := HO.out 3 (by omega); omega) hm1.2.2.2.1
              have x4 : wr.cell? ⟨G', of' 4 + p, none⟩ = some (.int .u64 5) := HROW.out.at (by have := HO.out 4 (by omega); omega) hm1.2.2.2.2.1
              have x5 : wr.cell? ⟨G', of' 5 + p, none⟩ = some (.int .u64 6) := HROW.out.at (by have := HO.out 5 (by omega); omega) hm1.2.2.2.2.2.1
              have x6 : wr.cell? ⟨G', of' 6 + p, none⟩ = some (.int .u64 7) := HROW.out.at (by have := HO.out 6 (by omega); omega) hm1.2.2.2.2.2.2
              clear hm1
              go_wp2_with fail
              go_round
              case rel => exact ⟨p + 1, by omega, by go_num⟩
              case measure => simp [intOf]; omega
            · have hlp2 : ¬ (p : Int) < (m : Int) + 1 := by omega
              go_wp2_with fail
              go_ret
              exact ⟨rfl, hbel⟩

end Go.Proofs.Qxb6608872a
