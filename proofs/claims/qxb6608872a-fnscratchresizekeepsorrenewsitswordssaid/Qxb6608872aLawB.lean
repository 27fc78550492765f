import Derived.Test.Qxb6608872aScr
namespace Go.Proofs.Qxb6608872a
open Go.RowKit Go.Deep

set_option maxRecDepth 100000 in
theorem lawB_far (n m : Int) (w : World) (hn : -9223372036854775808 ≤ n ∧ n ≤ 9223372036854775807) (hm : -9223372036854775808 ≤ m ∧ m ≤ 9223372036854775807) (h : n < 0 ∨ 65536 < n ∨ m < 0 ∨ 65536 < m) :
    Calls Try.prog 4 #[.int .i64 n, .int .i64 m] w fun e w' => e = .returned (.bool true) ∧ Below w.heap.size w w' := by
  by_cases h1 : n < 0
  · go_enter Try.func4, Try.ntmps4
    go_wp2
    go_ret
    exact ⟨rfl, Below.refl _ _⟩
  · by_cases h2 : 65536 < n
    · go_enter Try.func4, Try.ntmps4
      go_wp2
      go_ret
      exact ⟨rfl, Below.refl _ _⟩
    · by_cases h3 : m < 0
      · go_enter Try.func4, Try.ntmps4
        go_wp2
        go_ret
        exact ⟨rfl, Below.refl _ _⟩
      · have h4 : 65536 < m := by omega
        go_enter Try.func4, Try.ntmps4
        go_wp2
        go_ret
        exact ⟨rfl, Below.refl _ _⟩

/-- The first k words of each number bear their own values. -/
def Counts (of : Nat → Nat) (F : Nat → Int) (k : Nat) : Prop := ∀ i : Nat, i < k → F (of 0 + i) = 7 * (i : Int) + 1 ∧ F (of 1 + i) = 7 * (i : Int) + 2 ∧ F (of 2 + i) = 7 * (i : Int) + 3 ∧ F (of 3 + i) = 7 * (i : Int) + 4 ∧ F (of 4 + i) = 7 * (i : Int) + 5 ∧ F (of 5 + i) = 7 * (i : Int) + 6 ∧ F (of 6 + i) = 7 * (i : Int) + 7

theorem counts_step {of : Nat → Nat} {F : Nat → Int} {k c : Nat} (hk : k < c) (hof : ∀ j, j < 7 → of j = j * c) (h : Counts of F k) : Counts of (upd (upd (upd (upd (upd (upd (upd (F) (of 0 + k) (7 * (k : Int) + 1)) (of 1 + k) (7 * (k : Int) + 1 + 1)) (of 2 + k) (7 * (k : Int) + 1 + 1 + 1)) (of 3 + k) (7 * (k : Int) + 1 + 1 + 1 + 1)) (of 4 + k) (7 * (k : Int) + 1 + 1 + 1 + 1 + 1)) (of 5 + k) (7 * (k : Int) + 1 + 1 + 1 + 1 + 1 + 1)) (of 6 + k) (7 * (k : Int) + 1 + 1 + 1 + 1 + 1 + 1 + 1)) (k + 1) := by
  have o0 := hof 0 (by omega)
  have o1 := hof 1 (by omega)
  have o2 := hof 2 (by omega)
  have o3 := hof 3 (by omega)
  have o4 := hof 4 (by omega)
  have o5 := hof 5 (by omega)
  have o6 := hof 6 (by omega)
  intro i hi
  by_cases hik : i = k
  · subst hik
    refine ⟨?_, ?_, ?_, ?_, ?_, ?_, ?_⟩
    · rw [upd_ne (by omega), upd_ne (by omega), upd_ne (by omega), upd_ne (by omega), upd_ne (by omega), upd_ne (by omega), upd_eq]
    · rw [upd_ne (by omega), upd_ne (by omega), upd_ne (by omega), upd_ne (by omega), upd_ne (by omega), upd_eq]; omega
    · rw [upd_ne (by omega), upd_ne (by omega), upd_ne (by omega), upd_ne (by omega), upd_eq]; omega
    · rw [upd_ne (by omega), upd_ne (by omega), upd_ne (by omega), upd_eq]; omega
    · rw [upd_ne (by omega), upd_ne (by omega), upd_eq]; omega
    · rw [upd_ne (by omega), upd_eq]; omega
    · rw [upd_eq]; omega
  · have h1 := h i (by omega)
    refine ⟨?_, ?_, ?_, ?_, ?_, ?_, ?_⟩
    · rw [upd_ne (by omega), upd_ne (by omega), upd_ne (by omega), upd_ne (by omega), upd_ne (by omega), upd_ne (by omega), upd_ne (by omega)]; exact h1.1
    · rw [upd_ne (by omega), upd_ne (by omega), upd_ne (by omega), upd_ne (by omega), upd_ne (by omega), upd_ne (by omega), upd_ne (by omega)]; exact h1.2.1
    · rw [upd_ne (by omega), upd_ne (by omega), upd_ne (by omega), upd_ne (by omega), upd_ne (by omega), upd_ne (by omega), upd_ne (by omega)]; exact h1.2.2.1
    · rw [upd_ne (by omega), upd_ne (by omega), upd_ne (by omega), upd_ne (by omega), upd_ne (by omega), upd_ne (by omega), upd_ne (by omega)]; exact h1.2.2.2.1
    · rw [upd_ne (by omega), upd_ne (by omega), upd_ne (by omega), upd_ne (by omega), upd_ne (by omega), upd_ne (by omega), upd_ne (by omega)]; exact h1.2.2.2.2.1
    · rw [upd_ne (by omega), upd_ne (by omega), upd_ne (by omega), upd_ne (by omega), upd_ne (by omega), upd_ne (by omega), upd_ne (by omega)]; exact h1.2.2.2.2.2.1
    · rw [upd_ne (by omega), upd_ne (by omega), upd_ne (by omega), upd_ne (by omega), upd_ne (by omega), upd_ne (by omega), upd_ne (by omega)]; exact h1.2.2.2.2.2.2

theorem crow_step {wr : World} {G k c : Nat} {of : Nat → Nat} {F : Nat → Int} (hk : k < c) (hof : ∀ j, j < 7 → of j = j * c) (h : Row wr G (7 * c) F) :
    (∃ z, (wr).cell? ⟨G, of 0 + k, none⟩ = some (.int .u64 z)) ∧ (∃ z, ((wr).setCell ⟨G, of 0 + k, none⟩ (.int .u64 (7 * (k : Int) + 1))).cell? ⟨G, of 1 + k, none⟩ = some (.int .u64 z)) ∧ (∃ z, (((wr).setCell ⟨G, of 0 + k, none⟩ (.int .u64 (7 * (k : Int) + 1))).setCell ⟨G, of 1 + k, none⟩ (.int .u64 (7 * (k : Int) + 1 + 1))).cell? ⟨G, of 2 + k, none⟩ = some (.int .u64 z)) ∧ (∃ z, ((((wr).setCell ⟨G, of 0 + k, none⟩ (.int .u64 (7 * (k : Int) + 1))).setCell ⟨G, of 1 + k, none⟩ (.int .u64 (7 * (k : Int) + 1 + 1))).setCell ⟨G, of 2 + k, none⟩ (.int .u64 (7 * (k : Int) + 1 + 1 + 1))).cell? ⟨G, of 3 + k, none⟩ = some (.int .u64 z)) ∧ (∃ z, (((((wr).setCell ⟨G, of 0 + k, none⟩ (.int .u64 (7 * (k : Int) + 1))).setCell ⟨G, of 1 + k, none⟩ (.int .u64 (7 * (k : Int) + 1 + 1))).setCell ⟨G, of 2 + k, none⟩ (.int .u64 (7 * (k : Int) + 1 + 1 + 1))).setCell ⟨G, of 3 + k, none⟩ (.int .u64 (7 * (k : Int) + 1 + 1 + 1 + 1))).cell? ⟨G, of 4 + k, none⟩ = some (.int .u64 z)) ∧ (∃ z, ((((((wr).setCell ⟨G, of 0 + k, none⟩ (.int .u64 (7 * (k : Int) + 1))).setCell ⟨G, of 1 + k, none⟩ (.int .u64 (7 * (k : Int) + 1 + 1))).setCell ⟨G, of 2 + k, none⟩ (.int .u64 (7 * (k : Int) + 1 + 1 + 1))).setCell ⟨G, of 3 + k, none⟩ (.int .u64 (7 * (k : Int) + 1 + 1 + 1 + 1))).setCell ⟨G, of 4 + k, none⟩ (.int .u64 (7 * (k : Int) + 1 + 1 + 1 + 1 + 1))).cell? ⟨G, of 5 + k, none⟩ = some (.int .u64 z)) ∧ (∃ z, (((((((wr).setCell ⟨G, of 0 + k, none⟩ (.int .u64 (7 * (k : Int) + 1))).setCell ⟨G, of 1 + k, none⟩ (.int .u64 (7 * (k : Int) + 1 + 1))).setCell ⟨G, of 2 + k, none⟩ (.int .u64 (7 * (k : Int) + 1 + 1 + 1))).setCell ⟨G, of 3 + k, none⟩ (.int .u64 (7 * (k : Int) + 1 + 1 + 1 + 1))).setCell ⟨G, of 4 + k, none⟩ (.int .u64 (7 * (k : Int) + 1 + 1 + 1 + 1 + 1))).setCell ⟨G, of 5 + k, none⟩ (.int .u64 (7 * (k : Int) + 1 + 1 + 1 + 1 + 1 + 1))).cell? ⟨G, of 6 + k, none⟩ = some (.int .u64 z)) ∧ Row ((((((((wr).setCell ⟨G, of 0 + k, none⟩ (.int .u64 (7 * (k : Int) + 1))).setCell ⟨G, of 1 + k, none⟩ (.int .u64 (7 * (k : Int) + 1 + 1))).setCell ⟨G, of 2 + k, none⟩ (.int .u64 (7 * (k : Int) + 1 + 1 + 1))).setCell ⟨G, of 3 + k, none⟩ (.int .u64 (7 * (k : Int) + 1 + 1 + 1 + 1))).setCell ⟨G, of 4 + k, none⟩ (.int .u64 (7 * (k : Int) + 1 + 1 + 1 + 1 + 1))).setCell ⟨G, of 5 + k, none⟩ (.int .u64 (7 * (k : Int) + 1 + 1 + 1 + 1 + 1 + 1))).setCell ⟨G, of 6 + k, none⟩ (.int .u64 (7 * (k : Int) + 1 + 1 + 1 + 1 + 1 + 1 + 1))) G (7 * c) (upd (upd (upd (upd (upd (upd (upd (F) (of 0 + k) (7 * (k : Int) + 1)) (of 1 + k) (7 * (k : Int) + 1 + 1)) (of 2 + k) (7 * (k : Int) + 1 + 1 + 1)) (of 3 + k) (7 * (k : Int) + 1 + 1 + 1 + 1)) (of 4 + k) (7 * (k : Int) + 1 + 1 + 1 + 1 + 1)) (of 5 + k) (7 * (k : Int) + 1 + 1 + 1 + 1 + 1 + 1)) (of 6 + k) (7 * (k : Int) + 1 + 1 + 1 + 1 + 1 + 1 + 1)) := by
  have o0 := hof 0 (by omega)
  have o1 := hof 1 (by omega)
  have o2 := hof 2 (by omega)
  have o3 := hof 3 (by omega)
  have o4 := hof 4 (by omega)
  have o5 := hof 5 (by omega)
  have o6 := hof 6 (by omega)
  have r1 := Row.set h (p := of 0 + k) (by omega) (7 * (k : Int) + 1)
  have r2 := Row.set r1 (p := of 1 + k) (by omega) (7 * (k : Int) + 1 + 1)
  have r3 := Row.set r2 (p := of 2 + k) (by omega) (7 * (k : Int) + 1 + 1 + 1)
  have r4 := Row.set r3 (p := of 3 + k) (by omega) (7 * (k : Int) + 1 + 1 + 1 + 1)
  have r5 := Row.set r4 (p := of 4 + k) (by omega) (7 * (k : Int) + 1 + 1 + 1 + 1 + 1)
  have r6 := Row.set r5 (p := of 5 + k) (by omega) (7 * (k : Int) + 1 + 1 + 1 + 1 + 1 + 1)
  have r7 := Row.set r6 (p := of 6 + k) (by omega) (7 * (k : Int) + 1 + 1 + 1 + 1 + 1 + 1 + 1)
  exact ⟨⟨_, (h (of 0 + k) (by omega)).1⟩, ⟨_, (r1 (of 1 + k) (by omega)).1⟩, ⟨_, (r2 (of 2 + k) (by omega)).1⟩, ⟨_, (r3 (of 3 + k) (by omega)).1⟩, ⟨_, (r4 (of 4 + k) (by omega)).1⟩, ⟨_, (r5 (of 5 + k) (by omega)).1⟩, ⟨_, (r6 (of 6 + k) (by omega)).1⟩, r7⟩

set_option maxHeartbeats 8000000 in
set_option maxRecDepth 100000 in
theorem lawB_near (n m : Nat) (w : World) (hn : n ≤ 65536) (hm : m ≤ 65536) :
    Calls Try.prog 4 #[.int .i64 n, .int .i64 m] w fun e w' => e = .returned (.bool true) ∧ Below w.heap.size w w' := by
  go_enter Try.func4, Try.ntmps4
  go_wp2_with fail
  refine (zznew_any _).mono ?_
  rintro e w' ⟨rfl, rfl⟩
  go_wp2_with fail
  refine (zzsize_of (fresh_new w hn) (fun _ _ h => h.1)).mono ?_
  rintro e w1 ⟨rfl, ⟨G, of, hr⟩, hg⟩
  go_wp2_with fail
  refine (fields_any hr).mono ?_
  rintro e w2 ⟨rfl, hr2, hg2⟩
  have hb2 : Below w.heap.size w w2 := below_grown (below_grown ((Below.refl _ _).alloc (Nat.le_refl _) _) (by simp) hg) (by have := hr.ltB; omega) hg2
  clear hr hg hg2
  unfold seven
  have x00 : w2.cell? ⟨G, of 0, none⟩ = some (.int .u64 0) := hr2.row.at (by have := hr2.off 0 (by omega); omega) rfl
  have HR2 : Hid (Ready w.heap.size G (n + 1) (n + 1) of (fun _ => 0) w2) := hr2
  clear hr2
  go_wp2_with fail
  have HO : Hid (∀ j, j < 7 → of j = j * (n + 1)) := HR2.out.off
  have hGw : w.heap.size < G := HR2.out.hi
  go_loopw [14, 16] (fun v i wr => ∃ (q : Nat) (F : Nat → Int), q ≤ n + 1 ∧ i = .int .i64 q ∧ v = .int .u64 (7 * (q : Int)) ∧ Ready w.heap.size G (n + 1) (n + 1) of F wr ∧ Counts of F q ∧ Below w.heap.size w wr) (fun _ i _ => n + 1 - (intOf i).toNat)
  case atStart => exact ⟨0, _, Nat.zero_le _, rfl, rfl, HR2.out, fun i hi => absurd hi (Nat.not_lt_zero i), hb2⟩
  case round =>
    clear HR2 hb2 x00
    obtain ⟨q, F, hq, rfl, rfl, hrd, hct, hbel⟩ := hrel
    by_cases hlq : q < n + 1
    · have hlq2 : (q : Int) < (n : Int) + 1 := by omega
      obtain ⟨⟨z0, s0⟩, ⟨z1, s1⟩, ⟨z2, s2⟩, ⟨z3, s3⟩, ⟨z4, s4⟩, ⟨z5, s5⟩, ⟨z6, s6⟩, hrow7⟩ := crow_step hlq HO.out hrd.row
      have y0 := hrd.row.fr (i := of 0 + q) (by have := HO.out 0 (by omega); omega)
      have y1 := hrd.row.fr (i := of 1 + q) (by have := HO.out 1 (by omega); omega)
      have y2 := hrd.row.fr (i := of 2 + q) (by have := HO.out 2 (by omega); omega)
      have y3 := hrd.row.fr (i := of 3 + q) (by have := HO.out 3 (by omega); omega)
      have y4 := hrd.row.fr (i := of 4 + q) (by have := HO.out 4 (by omega); omega)
      have y5 := hrd.row.fr (i := of 5 + q) (by have := HO.out 5 (by omega); omega)
      have y6 := hrd.row.fr (i := of 6 + q) (by have := HO.out 6 (by omega); omega)
      have hbel7 := ((((((hbel.setCell (p := ⟨G, of 0 + q, none⟩) (Nat.le_of_lt hGw) (.int .u64 (7 * (q : Int) + 1))).setCell (p := ⟨G, of 1 + q, none⟩) (Nat.le_of_lt hGw) (.int .u64 (7 * (q : Int) + 1 + 1))).setCell (p := ⟨G, of 2 + q, none⟩) (Nat.le_of_lt hGw) (.int .u64 (7 * (q : Int) + 1 + 1 + 1))).setCell (p := ⟨G, of 3 + q, none⟩) (Nat.le_of_lt hGw) (.int .u64 (7 * (q : Int) + 1 + 1 + 1 + 1))).setCell (p := ⟨G, of 4 + q, none⟩) (Nat.le_of_lt hGw) (.int .u64 (7 * (q : Int) + 1 + 1 + 1 + 1 + 1))).setCell (p := ⟨G, of 5 + q, none⟩) (Nat.le_of_lt hGw) (.int .u64 (7 * (q : Int) + 1 + 1 + 1 + 1 + 1 + 1))).setCell (p := ⟨G, of 6 + q, none⟩) (Nat.le_of_lt hGw) (.int .u64 (7 * (q : Int) + 1 + 1 + 1 + 1 + 1 + 1 + 1))
      have hrd7 := ((((((hrd.other.poke (of 0 + q) (.int .u64 (7 * (q : Int) + 1))).poke (of 1 + q) (.int .u64 (7 * (q : Int) + 1 + 1))).poke (of 2 + q) (.int .u64 (7 * (q : Int) + 1 + 1 + 1))).poke (of 3 + q) (.int .u64 (7 * (q : Int) + 1 + 1 + 1 + 1))).poke (of 4 + q) (.int .u64 (7 * (q : Int) + 1 + 1 + 1 + 1 + 1))).poke (of 5 + q) (.int .u64 (7 * (q : Int) + 1 + 1 + 1 + 1 + 1 + 1))).poke (of 6 + q) (.int .u64 (7 * (q : Int) + 1 + 1 + 1 + 1 + 1 + 1 + 1))
      have HROW : Hid _ := hrd7.back hrow7
      have HM : Hid _ := counts_step hlq HO.out hct
      have HB : Hid _ := hbel7
      clear hrd hrow7 hct hbel hbel7 hrd7
      go_wp2_with fail
      go_roundw
      case rel => exact ⟨q + 1, _, by omega, by go_num, by go_num, HROW.out, HM.out, HB.out⟩
      case measure => simp [intOf]; omega
    · have hlq2 : ¬ (q : Int) < (n : Int) + 1 := by omega
      have hqn : q = n + 1 := by omega
      subst hqn
      have HRD : Hid (Ready w.heap.size G (n + 1) (n + 1) of F wr) := hrd
      have HCT : Hid (Counts of F (n + 1)) := hct
      clear hrd hct
      by_cases hmn0 : m ≤ n
      · have hmn : (m : Int) ≤ (n : Int) := by omega
        go_wp2_with fail
        refine (zzsize_of (ready_keep HRD.out hm (by omega)) (fun _ _ h => h.1)).mono ?_
        rintro e w3 ⟨rfl, hr3, hg3⟩
        have hb3 := below_grown hbel (by have := HRD.out.ltB; omega) hg3
        clear hg3 hbel HRD
        go_wp2_with fail
        refine (fields_any hr3).mono ?_
        rintro e w4 ⟨rfl, hr4, hg4⟩
        have hb4 := below_grown hb3 (by have := hr3.ltB; omega) hg4
        clear hr3 hg4 hb3
        unfold seven
        have HR4 : Hid (Ready w.heap.size G (m + 1) (n + 1) of F w4) := hr4
        clear hr4
        go_wp2_with fail
        refine (zzsize_of (ready_keep HR4.out hn (by omega)) (fun _ _ h => h.1)).mono ?_
        rintro e w5 ⟨rfl, hr5, hg5⟩
        have hb5 := below_grown hb4 (by have := HR4.out.ltB; omega) hg5
        clear hg5 hb4 HR4
        go_wp2_with fail
        refine (fields_any hr5).mono ?_
        rintro e w6 ⟨rfl, hr6, hg6⟩
        have hb6 := below_grown hb5 (by have := hr5.ltB; omega) hg6
        clear hr5 hg6 hb5
        unfold seven
        have HR6 : Hid (Ready w.heap.size G (n + 1) (n + 1) of F w6) := hr6
        clear hr6
        go_wp2_with fail
        go_loop [14, 19] (fun v i => ∃ k : Nat, k ≤ n + 1 ∧ i = .int .i64 k ∧ v = .int .u64 (7 * (k : Int))) (fun _ i => n + 1 - (intOf i).toNat)
        case atStart => exact ⟨0, Nat.zero_le _, rfl, rfl⟩
        case round =>
          obtain ⟨p, hp, rfl, rfl⟩ := hrel
          by_cases hlp : p < n + 1
          · have hlp2 : (p : Int) < (n : Int) + 1 := by omega
            have hm1 := HCT.out p hlp
            have x0 : w6.cell? ⟨G, of 0 + p, none⟩ = some (.int .u64 (7 * (p : Int) + 1)) := HR6.out.row.at (by have := HR6.out.off 0 (by omega); omega) ((hm1.1).trans (by omega))
            have x1 : w6.cell? ⟨G, of 1 + p, none⟩ = some (.int .u64 (7 * (p : Int) + 1 + 1)) := HR6.out.row.at (by have := HR6.out.off 1 (by omega); omega) ((hm1.2.1).trans (by omega))
            have x2 : w6.cell? ⟨G, of 2 + p, none⟩ = some (.int .u64 (7 * (p : Int) + 1 + 1 + 1)) := HR6.out.row.at (by have := HR6.out.off 2 (by omega); omega) ((hm1.2.2.1).trans (by omega))
            have x3 : w6.cell? ⟨G, of 3 + p, none⟩ = some (.int .u64 (7 * (p : Int) + 1 + 1 + 1 + 1)) := HR6.out.row.at (by have := HR6.out.off 3 (by omega); omega) ((hm1.2.2.2.1).trans (by omega))
            have x4 : w6.cell? ⟨G, of 4 + p, none⟩ = some (.int .u64 (7 * (p : Int) + 1 + 1 + 1 + 1 + 1)) := HR6.out.row.at (by have := HR6.out.off 4 (by omega); omega) ((hm1.2.2.2.2.1).trans (by omega))
            have x5 : w6.cell? ⟨G, of 5 + p, none⟩ = some (.int .u64 (7 * (p : Int) + 1 + 1 + 1 + 1 + 1 + 1)) := HR6.out.row.at (by have := HR6.out.off 5 (by omega); omega) ((hm1.2.2.2.2.2.1).trans (by omega))
            have x6 : w6.cell? ⟨G, of 6 + p, none⟩ = some (.int .u64 (7 * (p : Int) + 1 + 1 + 1 + 1 + 1 + 1 + 1)) := HR6.out.row.at (by have := HR6.out.off 6 (by omega); omega) ((hm1.2.2.2.2.2.2).trans (by omega))
            clear hm1
            go_wp2_with fail
            go_round
            case rel => exact ⟨p + 1, by omega, by go_num, by go_num⟩
            case measure => simp [intOf]; omega
          · have hlp2 : ¬ (p : Int) < (n : Int) + 1 := by omega
            go_wp2_with fail
            go_ret
            exact ⟨rfl, hb6⟩
      · have hmn : ¬ (m : Int) ≤ (n : Int) := by omega
        go_wp2_with fail
        refine (zzsize_of (ready_new HRD.out hm (by omega)) (fun _ _ h => h.1)).mono ?_
        rintro e w3 ⟨rfl, ⟨G2, of2, hr3⟩, hg3⟩
        have hb3 := below_grown hbel (by have := HRD.out.ltB; omega) hg3
        clear hg3 hbel HRD
        go_wp2_with fail
        refine (fields_any hr3).mono ?_
        rintro e w4 ⟨rfl, hr4, hg4⟩
        have hb4 := below_grown hb3 (by have := hr3.ltB; omega) hg4
        clear hr3 hg4 hb3
        unfold seven
        have HR4 : Hid (Ready w.heap.size G2 (m + 1) (m + 1) of2 (fun _ => 0) w4) := hr4
        clear hr4
        go_wp2_with fail
        refine (zzsize_of (ready_keep HR4.out hn (by omega)) (fun _ _ h => h.1)).mono ?_
        rintro e w5 ⟨rfl, hr5, hg5⟩
        have hb5 := below_grown hb4 (by have := HR4.out.ltB; omega) hg5
        clear hg5 hb4 HR4
        go_wp2_with fail
        refine (fields_any hr5).mono ?_
        rintro e w6 ⟨rfl, hr6, hg6⟩
        have hb6 := below_grown hb5 (by have := hr5.ltB; omega) hg6
        clear hr5 hg6 hb5
        unfold seven
        have HR6 : Hid (Ready w.heap.size G2 (n + 1) (m + 1) of2 (fun _ => 0) w6) := hr6
        clear hr6
        go_wp2_with fail
        go_loop [14, 19] (fun v i => ∃ k : Nat, k ≤ n + 1 ∧ i = .int .i64 k ∧ v = .int .u64 (7 * (k : Int))) (fun _ i => n + 1 - (intOf i).toNat)
        case atStart => exact ⟨0, Nat.zero_le _, rfl, rfl⟩
        case round =>
          obtain ⟨p, hp, rfl, rfl⟩ := hrel
          by_cases hlp : p < n + 1
          · have hlp2 : (p : Int) < (n : Int) + 1 := by omega
            have x0 : w6.cell? ⟨G2, of2 0 + p, none⟩ = some (.int .u64 (0)) := HR6.out.row.at (by have := HR6.out.off 0 (by omega); omega) (rfl)
            have x1 : w6.cell? ⟨G2, of2 1 + p, none⟩ = some (.int .u64 (0)) := HR6.out.row.at (by have := HR6.out.off 1 (by omega); omega) (rfl)
            have x2 : w6.cell? ⟨G2, of2 2 + p, none⟩ = some (.int .u64 (0)) := HR6.out.row.at (by have := HR6.out.off 2 (by omega); omega) (rfl)
            have x3 : w6.cell? ⟨G2, of2 3 + p, none⟩ = some (.int .u64 (0)) := HR6.out.row.at (by have := HR6.out.off 3 (by omega); omega) (rfl)
            have x4 : w6.cell? ⟨G2, of2 4 + p, none⟩ = some (.int .u64 (0)) := HR6.out.row.at (by have := HR6.out.off 4 (by omega); omega) (rfl)
            have x5 : w6.cell? ⟨G2, of2 5 + p, none⟩ = some (.int .u64 (0)) := HR6.out.row.at (by have := HR6.out.off 5 (by omega); omega) (rfl)
            have x6 : w6.cell? ⟨G2, of2 6 + p, none⟩ = some (.int .u64 (0)) := HR6.out.row.at (by have := HR6.out.off 6 (by omega); omega) (rfl)
            go_wp2_with fail
            go_round
            case rel => exact ⟨p + 1, by omega, by go_num, by go_num⟩
            case measure => simp [intOf]; omega
          · have hlp2 : ¬ (p : Int) < (n : Int) + 1 := by omega
            go_wp2_with fail
            go_ret
            exact ⟨rfl, hb6⟩

end Go.Proofs.Qxb6608872a
