import Derived.Test.Qxb6608872aSizeBase
namespace Go.Proofs.Qxb6608872a
open Go.RowKit Go.Deep

/-- What size leaves where it makes new words. -/
def NewPost (B n : Nat) (of : Nat → Nat) (w : World) (e : Ending) (w' : World) : Prop :=
  e = .returned (.tuple #[]) ∧ ∃ G, w.heap.size ≤ G ∧ G < w'.heap.size ∧ Sized B G (n + 1) (n + 1) of w' ∧ (∀ i, i < 7 * (n + 1) → w'.cell? ⟨G, i, none⟩ = some (.int .u64 0) ∧ w'.frozen? ⟨G, i, none⟩ = false) ∧ w.grownBy w' (some B)

set_option maxHeartbeats 400000 in
theorem next_mid (bw bn g o o' l l' n : Nat) (w : World) (hw : w.cell? ⟨bw, 0, none⟩ = some (.slice (some ⟨g, o, none⟩) l l)) (hf : w.frozen? ⟨bw, 0, none⟩ = false) (hn : w.cell? ⟨bn, 0, none⟩ = some (.int .i64 n)) (hl : Hid (l = l' + (n + 1))) (hl' : 0 < l') (ho : Hid (o' = o + (n + 1))) (hn6 : n ≤ 65536) :
    Calls Try.prog 9 #[.pointer (some ⟨bw, 0, none⟩), .pointer (some ⟨bn, 0, none⟩)] w fun e w' => e = .returned (.slice (some ⟨g, o, none⟩) (n + 1) (n + 1)) ∧ w' = w.setCell ⟨bw, 0, none⟩ (.slice (some ⟨g, o', none⟩) l' l') := by
  have e1 := hl.out
  have e2 := ho.out
  subst e1 e2
  have h4 : ¬ l' + (n + 1) = n + 1 := by omega
  have h5 : n + 1 ≤ l' + (n + 1) := by omega
  go_enter Try.func9, Try.ntmps9
  go_wp2
  go_ret
  exact ⟨rfl, by simp⟩

set_option maxHeartbeats 400000 in
theorem next_last (bw bn g o n : Nat) (w : World) (hw : w.cell? ⟨bw, 0, none⟩ = some (.slice (some ⟨g, o, none⟩) (n + 1) (n + 1))) (hf : w.frozen? ⟨bw, 0, none⟩ = false) (hn : w.cell? ⟨bn, 0, none⟩ = some (.int .i64 n)) (hn6 : n ≤ 65536) :
    Calls Try.prog 9 #[.pointer (some ⟨bw, 0, none⟩), .pointer (some ⟨bn, 0, none⟩)] w fun e w' => e = .returned (.slice (some ⟨g, o, none⟩) (n + 1) (n + 1)) ∧ w' = w.setCell ⟨bw, 0, none⟩ (.slice (some ⟨g, o, none⟩) 0 0) := by
  go_enter Try.func9, Try.ntmps9
  go_wp2
  go_ret
  exact ⟨rfl, by simp⟩

theorem made_at (z : Value) (l i : Nat) (hi : i < l) : (madeCells #[z] l)[i]? = some z := by
  unfold madeCells
  simp [hi, Nat.mod_one]

theorem made_facts {w V : World} {n l nq : Nat} {sv sv' : Value} (hV : V = ((((w.alloc (.cells #[.int .i64 (n : Int)] 3)).drewN nq).alloc (.cells (madeCells #[.int .u64 0] l) 29)).alloc (.cells #[sv] 25)).setCell ⟨w.heap.size + 1 + 1, 0, none⟩ sv') :
    (∀ b j, b < w.heap.size → V.cell? ⟨b, j, none⟩ = w.cell? ⟨b, j, none⟩) ∧ (∀ b j, b < w.heap.size → V.frozen? ⟨b, j, none⟩ = w.frozen? ⟨b, j, none⟩) ∧ V.cell? ⟨w.heap.size, 0, none⟩ = some (.int .i64 (n : Int)) ∧
    (∀ i, i < l → V.cell? ⟨w.heap.size + 1, i, none⟩ = some (.int .u64 0) ∧ V.frozen? ⟨w.heap.size + 1, i, none⟩ = false) ∧ Below w.heap.size w V ∧ V.heap.size = w.heap.size + 3 := by
  subst hV
  refine ⟨?_, ?_, ?_, ?_, ?_, ?_⟩
  · intro b j hb
    rw [World.cell?_setCell_other _ _ _ _ (fun e => by have e1 := congrArg Addr.block e; simp only at e1; omega), World.cell?_alloc_past _ _ _ (by simp; omega), World.cell?_alloc_past _ _ _ (by simp; omega)]
    exact World.cell?_alloc_past _ _ _ hb
  · intro b j hb
    rw [World.frozen?_setCell, World.frozen?_alloc_past _ _ _ (by simp; omega), World.frozen?_alloc_past _ _ _ (by simp; omega)]
    exact World.frozen?_alloc_past _ _ _ hb
  · rw [World.cell?_setCell_other _ _ _ _ (fun e => by have e1 := congrArg Addr.block e; simp only at e1; omega), World.cell?_alloc_past _ _ _ (by simp; omega), World.cell?_alloc_past _ _ _ (by simp)]
    exact World.cell?_alloc_at _ _ _ _ rfl
  · intro i hi
    constructor
    · rw [World.cell?_setCell_other _ _ _ _ (fun e => by have e1 := congrArg Addr.block e; simp only at e1; omega), World.cell?_alloc_past _ _ _ (by simp), World.cell?_alloc_at _ _ _ _ (by simp)]
      exact made_at _ _ _ hi
    · rw [World.frozen?_setCell, World.frozen?_alloc_past _ _ _ (by simp), World.frozen?_alloc_at _ _ _ _ (by simp)]
  · have b1 : Below w.heap.size w ((w.alloc (.cells #[.int .i64 (n : Int)] 3)).drewN nq) := ((Below.refl _ _).alloc (Nat.le_refl _) _).trans ⟨rfl, rfl, rfl, Nat.le_refl _, fun _ _ => rfl⟩
    exact ((b1.alloc (by simp) _).alloc (by simp; omega) _).setCell (by show w.heap.size ≤ w.heap.size + 1 + 1; omega) _
  · simp

theorem chain7 {w V : World} {B G n bn : Nat} {of : Nat → Nat} {v0 v1 v2 v3 v4 v5 v6 : Value} (hof : of 0 = 0) (h0 : V.cell? ⟨B, 0, none⟩ = some v0) (h1 : V.cell? ⟨B, 1, none⟩ = some v1) (h2 : V.cell? ⟨B, 2, none⟩ = some v2) (h3 : V.cell? ⟨B, 3, none⟩ = some v3) (h4 : V.cell? ⟨B, 4, none⟩ = some v4) (h5 : V.cell? ⟨B, 5, none⟩ = some v5) (h6 : V.cell? ⟨B, 6, none⟩ = some v6)
    (f0 : V.frozen? ⟨B, 0, none⟩ = false) (f1 : V.frozen? ⟨B, 1, none⟩ = false) (f2 : V.frozen? ⟨B, 2, none⟩ = false) (f3 : V.frozen? ⟨B, 3, none⟩ = false) (f4 : V.frozen? ⟨B, 4, none⟩ = false) (f5 : V.frozen? ⟨B, 5, none⟩ = false) (f6 : V.frozen? ⟨B, 6, none⟩ = false)
    (hVn : V.cell? ⟨bn, 0, none⟩ = some (.int .i64 (n : Int))) (hb : bn ≠ B) (hG : G ≠ B) (hVG : ∀ i, i < 7 * (n + 1) → V.cell? ⟨G, i, none⟩ = some (.int .u64 0) ∧ V.frozen? ⟨G, i, none⟩ = false) (hg : w.grownBy V (some B)) (hGV : G < V.heap.size) :
    Sized B G (n + 1) (n + 1) of ((((((((V).setCell ⟨B, 0, none⟩ (.slice (some ⟨G, 0, none⟩) (n + 1) (n + 1))).setCell ⟨B, 1, none⟩ (.slice (some ⟨G, of 1, none⟩) (n + 1) (n + 1))).setCell ⟨B, 2, none⟩ (.slice (some ⟨G, of 2, none⟩) (n + 1) (n + 1))).setCell ⟨B, 3, none⟩ (.slice (some ⟨G, of 3, none⟩) (n + 1) (n + 1))).setCell ⟨B, 4, none⟩ (.slice (some ⟨G, of 4, none⟩) (n + 1) (n + 1))).setCell ⟨B, 5, none⟩ (.slice (some ⟨G, of 5, none⟩) (n + 1) (n + 1))).setCell ⟨B, 6, none⟩ (.slice (some ⟨G, of 6, none⟩) (n + 1) (n + 1))) ∧ ((((((((V).setCell ⟨B, 0, none⟩ (.slice (some ⟨G, 0, none⟩) (n + 1) (n + 1))).setCell ⟨B, 1, none⟩ (.slice (some ⟨G, of 1, none⟩) (n + 1) (n + 1))).setCell ⟨B, 2, none⟩ (.slice (some ⟨G, of 2, none⟩) (n + 1) (n + 1))).setCell ⟨B, 3, none⟩ (.slice (some ⟨G, of 3, none⟩) (n + 1) (n + 1))).setCell ⟨B, 4, none⟩ (.slice (some ⟨G, of 4, none⟩) (n + 1) (n + 1))).setCell ⟨B, 5, none⟩ (.slice (some ⟨G, of 5, none⟩) (n + 1) (n + 1))).setCell ⟨B, 6, none⟩ (.slice (some ⟨G, of 6, none⟩) (n + 1) (n + 1))).cell? ⟨bn, 0, none⟩ = some (.int .i64 (n : Int)) ∧ (∀ i, i < 7 * (n + 1) → ((((((((V).setCell ⟨B, 0, none⟩ (.slice (some ⟨G, 0, none⟩) (n + 1) (n + 1))).setCell ⟨B, 1, none⟩ (.slice (some ⟨G, of 1, none⟩) (n + 1) (n + 1))).setCell ⟨B, 2, none⟩ (.slice (some ⟨G, of 2, none⟩) (n + 1) (n + 1))).setCell ⟨B, 3, none⟩ (.slice (some ⟨G, of 3, none⟩) (n + 1) (n + 1))).setCell ⟨B, 4, none⟩ (.slice (some ⟨G, of 4, none⟩) (n + 1) (n + 1))).setCell ⟨B, 5, none⟩ (.slice (some ⟨G, of 5, none⟩) (n + 1) (n + 1))).setCell ⟨B, 6, none⟩ (.slice (some ⟨G, of 6, none⟩) (n + 1) (n + 1))).cell? ⟨G, i, none⟩ = some (.int .u64 0) ∧ ((((((((V).setCell ⟨B, 0, none⟩ (.slice (some ⟨G, 0, none⟩) (n + 1) (n + 1))).setCell ⟨B, 1, none⟩ (.slice (some ⟨G, of 1, none⟩) (n + 1) (n + 1))).setCell ⟨B, 2, none⟩ (.slice (some ⟨G, of 2, none⟩) (n + 1) (n + 1))).setCell ⟨B, 3, none⟩ (.slice (some ⟨G, of 3, none⟩) (n + 1) (n + 1))).setCell ⟨B, 4, none⟩ (.slice (some ⟨G, of 4, none⟩) (n + 1) (n + 1))).setCell ⟨B, 5, none⟩ (.slice (some ⟨G, of 5, none⟩) (n + 1) (n + 1))).setCell ⟨B, 6, none⟩ (.slice (some ⟨G, of 6, none⟩) (n + 1) (n + 1))).frozen? ⟨G, i, none⟩ = false) ∧ w.grownBy ((((((((V).setCell ⟨B, 0, none⟩ (.slice (some ⟨G, 0, none⟩) (n + 1) (n + 1))).setCell ⟨B, 1, none⟩ (.slice (some ⟨G, of 1, none⟩) (n + 1) (n + 1))).setCell ⟨B, 2, none⟩ (.slice (some ⟨G, of 2, none⟩) (n + 1) (n + 1))).setCell ⟨B, 3, none⟩ (.slice (some ⟨G, of 3, none⟩) (n + 1) (n + 1))).setCell ⟨B, 4, none⟩ (.slice (some ⟨G, of 4, none⟩) (n + 1) (n + 1))).setCell ⟨B, 5, none⟩ (.slice (some ⟨G, of 5, none⟩) (n + 1) (n + 1))).setCell ⟨B, 6, none⟩ (.slice (some ⟨G, of 6, none⟩) (n + 1) (n + 1))) (some B) ∧ G < ((((((((V).setCell ⟨B, 0, none⟩ (.slice (some ⟨G, 0, none⟩) (n + 1) (n + 1))).setCell ⟨B, 1, none⟩ (.slice (some ⟨G, of 1, none⟩) (n + 1) (n + 1))).setCell ⟨B, 2, none⟩ (.slice (some ⟨G, of 2, none⟩) (n + 1) (n + 1))).setCell ⟨B, 3, none⟩ (.slice (some ⟨G, of 3, none⟩) (n + 1) (n + 1))).setCell ⟨B, 4, none⟩ (.slice (some ⟨G, of 4, none⟩) (n + 1) (n + 1))).setCell ⟨B, 5, none⟩ (.slice (some ⟨G, of 5, none⟩) (n + 1) (n + 1))).setCell ⟨B, 6, none⟩ (.slice (some ⟨G, of 6, none⟩) (n + 1) (n + 1))).heap.size := by
  obtain ⟨W0, hW0⟩ : ∃ W0, W0 = V := ⟨_, rfl⟩
  have g0 : w.grownBy W0 (some B) := by subst hW0; exact hg
  rw [← hW0] at h0 h1 h2 h3 h4 h5 h6 f0 f1 f2 f3 f4 f5 f6 hVn hVG
  rw [← hW0]
  obtain ⟨W1, hW1⟩ : ∃ W1, W1 = W0.setCell ⟨B, 0, none⟩ (.slice (some ⟨G, 0, none⟩) (n + 1) (n + 1)) := ⟨_, rfl⟩
  have p1 := step_cell hW1 (h0)
  have s1 : ∀ b j, b ≠ B → W1.frozen? ⟨b, j, none⟩ = W0.frozen? ⟨b, j, none⟩ := by intro b j _; rw [hW1]; exact World.frozen?_setCell _ _ _ _
  have t1 : W1.heap.size = W0.heap.size := by rw [hW1]; simp
  have g1 : w.grownBy W1 (some B) := by rw [hW1]; exact grown_setCell g0 rfl _
  rw [← hW1]
  obtain ⟨W2, hW2⟩ : ∃ W2, W2 = W1.setCell ⟨B, 1, none⟩ (.slice (some ⟨G, of 1, none⟩) (n + 1) (n + 1)) := ⟨_, rfl⟩
  have p2 := step_cell hW2 ((p1.1 1 (by omega)).trans (h1))
  have s2 : ∀ b j, b ≠ B → W2.frozen? ⟨b, j, none⟩ = W1.frozen? ⟨b, j, none⟩ := by intro b j _; rw [hW2]; exact World.frozen?_setCell _ _ _ _
  have t2 : W2.heap.size = W1.heap.size := by rw [hW2]; simp
  have g2 : w.grownBy W2 (some B) := by rw [hW2]; exact grown_setCell g1 rfl _
  rw [← hW2]
  obtain ⟨W3, hW3⟩ : ∃ W3, W3 = W2.setCell ⟨B, 2, none⟩ (.slice (some ⟨G, of 2, none⟩) (n + 1) (n + 1)) := ⟨_, rfl⟩
  have p3 := step_cell hW3 ((p2.1 2 (by omega)).trans ((p1.1 2 (by omega)).trans (h2)))
  have s3 : ∀ b j, b ≠ B → W3.frozen? ⟨b, j, none⟩ = W2.frozen? ⟨b, j, none⟩ := by intro b j _; rw [hW3]; exact World.frozen?_setCell _ _ _ _
  have t3 : W3.heap.size = W2.heap.size := by rw [hW3]; simp
  have g3 : w.grownBy W3 (some B) := by rw [hW3]; exact grown_setCell g2 rfl _
  rw [← hW3]
  obtain ⟨W4, hW4⟩ : ∃ W4, W4 = W3.setCell ⟨B, 3, none⟩ (.slice (some ⟨G, of 3, none⟩) (n + 1) (n + 1)) := ⟨_, rfl⟩
  have p4 := step_cell hW4 ((p3.1 3 (by omega)).trans ((p2.1 3 (by omega)).trans ((p1.1 3 (by omega)).trans (h3))))
  have s4 : ∀ b j, b ≠ B → W4.frozen? ⟨b, j, none⟩ = W3.frozen? ⟨b, j, none⟩ := by intro b j _; rw [hW4]; exact World.frozen?_setCell _ _ _ _
  have t4 : W4.heap.size = W3.heap.size := by rw [hW4]; simp
  have g4 : w.grownBy W4 (some B) := by rw [hW4]; exact grown_setCell g3 rfl _
  rw [← hW4]
  obtain ⟨W5, hW5⟩ : ∃ W5, W5 = W4.setCell ⟨B, 4, none⟩ (.slice (some ⟨G, of 4, none⟩) (n + 1) (n + 1)) := ⟨_, rfl⟩
  have p5 := step_cell hW5 ((p4.1 4 (by omega)).trans ((p3.1 4 (by omega)).trans ((p2.1 4 (by omega)).trans ((p1.1 4 (by omega)).trans (h4)))))
  have s5 : ∀ b j, b ≠ B → W5.frozen? ⟨b, j, none⟩ = W4.frozen? ⟨b, j, none⟩ := by intro b j _; rw [hW5]; exact World.frozen?_setCell _ _ _ _
  have t5 : W5.heap.size = W4.heap.size := by rw [hW5]; simp
  have g5 : w.grownBy W5 (some B) := by rw [hW5]; exact grown_setCell g4 rfl _
  rw [← hW5]
  obtain ⟨W6, hW6⟩ : ∃ W6, W6 = W5.setCell ⟨B, 5, none⟩ (.slice (some ⟨G, of 5, none⟩) (n + 1) (n + 1)) := ⟨_, rfl⟩
  have p6 := step_cell hW6 ((p5.1 5 (by omega)).trans ((p4.1 5 (by omega)).trans ((p3.1 5 (by omega)).trans ((p2.1 5 (by omega)).trans ((p1.1 5 (by omega)).trans (h5))))))
  have s6 : ∀ b j, b ≠ B → W6.frozen? ⟨b, j, none⟩ = W5.frozen? ⟨b, j, none⟩ := by intro b j _; rw [hW6]; exact World.frozen?_setCell _ _ _ _
  have t6 : W6.heap.size = W5.heap.size := by rw [hW6]; simp
  have g6 : w.grownBy W6 (some B) := by rw [hW6]; exact grown_setCell g5 rfl _
  rw [← hW6]
  obtain ⟨W7, hW7⟩ : ∃ W7, W7 = W6.setCell ⟨B, 6, none⟩ (.slice (some ⟨G, of 6, none⟩) (n + 1) (n + 1)) := ⟨_, rfl⟩
  have p7 := step_cell hW7 ((p6.1 6 (by omega)).trans ((p5.1 6 (by omega)).trans ((p4.1 6 (by omega)).trans ((p3.1 6 (by omega)).trans ((p2.1 6 (by omega)).trans ((p1.1 6 (by omega)).trans (h6)))))))
  have s7 : ∀ b j, b ≠ B → W7.frozen? ⟨b, j, none⟩ = W6.frozen? ⟨b, j, none⟩ := by intro b j _; rw [hW7]; exact World.frozen?_setCell _ _ _ _
  have t7 : W7.heap.size = W6.heap.size := by rw [hW7]; simp
  have g7 : w.grownBy W7 (some B) := by rw [hW7]; exact grown_setCell g6 rfl _
  rw [← hW7]
  exact ⟨⟨((p7.1 0 (by omega)).trans ((p6.1 0 (by omega)).trans ((p5.1 0 (by omega)).trans ((p4.1 0 (by omega)).trans ((p3.1 0 (by omega)).trans ((p2.1 0 (by omega)).trans (p1.2.1))))))).trans (by rw [hof]), (p7.1 1 (by omega)).trans ((p6.1 1 (by omega)).trans ((p5.1 1 (by omega)).trans ((p4.1 1 (by omega)).trans ((p3.1 1 (by omega)).trans (p2.2.1))))), (p7.1 2 (by omega)).trans ((p6.1 2 (by omega)).trans ((p5.1 2 (by omega)).trans ((p4.1 2 (by omega)).trans (p3.2.1)))), (p7.1 3 (by omega)).trans ((p6.1 3 (by omega)).trans ((p5.1 3 (by omega)).trans (p4.2.1))), (p7.1 4 (by omega)).trans ((p6.1 4 (by omega)).trans (p5.2.1)), (p7.1 5 (by omega)).trans (p6.2.1), p7.2.1, (p7.2.2.1 0).trans ((p6.2.2.1 0).trans ((p5.2.2.1 0).trans ((p4.2.2.1 0).trans ((p3.2.2.1 0).trans ((p2.2.2.1 0).trans ((p1.2.2.1 0).trans (f0))))))), (p7.2.2.1 1).trans ((p6.2.2.1 1).trans ((p5.2.2.1 1).trans ((p4.2.2.1 1).trans ((p3.2.2.1 1).trans ((p2.2.2.1 1).trans ((p1.2.2.1 1).trans (f1))))))), (p7.2.2.1 2).trans ((p6.2.2.1 2).trans ((p5.2.2.1 2).trans ((p4.2.2.1 2).trans ((p3.2.2.1 2).trans ((p2.2.2.1 2).trans ((p1.2.2.1 2).trans (f2))))))), (p7.2.2.1 3).trans ((p6.2.2.1 3).trans ((p5.2.2.1 3).trans ((p4.2.2.1 3).trans ((p3.2.2.1 3).trans ((p2.2.2.1 3).trans ((p1.2.2.1 3).trans (f3))))))), (p7.2.2.1 4).trans ((p6.2.2.1 4).trans ((p5.2.2.1 4).trans ((p4.2.2.1 4).trans ((p3.2.2.1 4).trans ((p2.2.2.1 4).trans ((p1.2.2.1 4).trans (f4))))))), (p7.2.2.1 5).trans ((p6.2.2.1 5).trans ((p5.2.2.1 5).trans ((p4.2.2.1 5).trans ((p3.2.2.1 5).trans ((p2.2.2.1 5).trans ((p1.2.2.1 5).trans (f5))))))), (p7.2.2.1 6).trans ((p6.2.2.1 6).trans ((p5.2.2.1 6).trans ((p4.2.2.1 6).trans ((p3.2.2.1 6).trans ((p2.2.2.1 6).trans ((p1.2.2.1 6).trans (f6)))))))⟩, (p7.2.2.2 bn 0 hb).trans ((p6.2.2.2 bn 0 hb).trans ((p5.2.2.2 bn 0 hb).trans ((p4.2.2.2 bn 0 hb).trans ((p3.2.2.2 bn 0 hb).trans ((p2.2.2.2 bn 0 hb).trans ((p1.2.2.2 bn 0 hb).trans (hVn))))))), fun i hi => ⟨(p7.2.2.2 G i hG).trans ((p6.2.2.2 G i hG).trans ((p5.2.2.2 G i hG).trans ((p4.2.2.2 G i hG).trans ((p3.2.2.2 G i hG).trans ((p2.2.2.2 G i hG).trans ((p1.2.2.2 G i hG).trans ((hVG i hi).1))))))), (s7 G i hG).trans ((s6 G i hG).trans ((s5 G i hG).trans ((s4 G i hG).trans ((s3 G i hG).trans ((s2 G i hG).trans ((s1 G i hG).trans ((hVG i hi).2)))))))⟩, g7, by rw [t7, t6, t5, t4, t3, t2, t1, hW0]; exact hGV⟩

theorem far_set (w : World) (B i b j : Nat) (v : Value) (h : b ≠ B) : (w.setCell ⟨B, i, none⟩ v).cell? ⟨b, j, none⟩ = w.cell? ⟨b, j, none⟩ :=
  World.cell?_setCell_other _ _ _ _ (fun e => h (by cases e; rfl))
theorem chainG5 {V : World} {B G n : Nat} {of : Nat → Nat} (hG : G ≠ B) (h : ∀ i, i < 7 * (n + 1) → V.cell? ⟨G, i, none⟩ = some (.int .u64 0) ∧ V.frozen? ⟨G, i, none⟩ = false) (hs : G < V.heap.size) :
    (∀ i, i < 7 * (n + 1) → ((((((V.drew).setCell ⟨B, 0, none⟩ (.slice (some ⟨G, of 0, none⟩) (n + 1) (n + 1))).setCell ⟨B, 1, none⟩ (.slice (some ⟨G, of 1, none⟩) (n + 1) (n + 1))).setCell ⟨B, 2, none⟩ (.slice (some ⟨G, of 2, none⟩) (n + 1) (n + 1))).setCell ⟨B, 3, none⟩ (.slice (some ⟨G, of 3, none⟩) (n + 1) (n + 1))).setCell ⟨B, 4, none⟩ (.slice (some ⟨G, of 4, none⟩) (n + 1) (n + 1))).cell? ⟨G, i, none⟩ = some (.int .u64 0) ∧ ((((((V.drew).setCell ⟨B, 0, none⟩ (.slice (some ⟨G, of 0, none⟩) (n + 1) (n + 1))).setCell ⟨B, 1, none⟩ (.slice (some ⟨G, of 1, none⟩) (n + 1) (n + 1))).setCell ⟨B, 2, none⟩ (.slice (some ⟨G, of 2, none⟩) (n + 1) (n + 1))).setCell ⟨B, 3, none⟩ (.slice (some ⟨G, of 3, none⟩) (n + 1) (n + 1))).setCell ⟨B, 4, none⟩ (.slice (some ⟨G, of 4, none⟩) (n + 1) (n + 1))).frozen? ⟨G, i, none⟩ = false) ∧ G < ((((((V.drew).setCell ⟨B, 0, none⟩ (.slice (some ⟨G, of 0, none⟩) (n + 1) (n + 1))).setCell ⟨B, 1, none⟩ (.slice (some ⟨G, of 1, none⟩) (n + 1) (n + 1))).setCell ⟨B, 2, none⟩ (.slice (some ⟨G, of 2, none⟩) (n + 1) (n + 1))).setCell ⟨B, 3, none⟩ (.slice (some ⟨G, of 3, none⟩) (n + 1) (n + 1))).setCell ⟨B, 4, none⟩ (.slice (some ⟨G, of 4, none⟩) (n + 1) (n + 1))).heap.size := by
  refine ⟨fun i hi => ⟨?_, ?_⟩, by simpa using hs⟩
  · rw [far_set _ _ _ _ _ _ hG, far_set _ _ _ _ _ _ hG, far_set _ _ _ _ _ _ hG, far_set _ _ _ _ _ _ hG, far_set _ _ _ _ _ _ hG]
    exact (h i hi).1
  · rw [World.frozen?_setCell, World.frozen?_setCell, World.frozen?_setCell, World.frozen?_setCell, World.frozen?_setCell]
    exact (h i hi).2
theorem chainG2 {X : World} {B G n : Nat} {of : Nat → Nat} (hG : G ≠ B) (h : (∀ i, i < 7 * (n + 1) → X.cell? ⟨G, i, none⟩ = some (.int .u64 0) ∧ X.frozen? ⟨G, i, none⟩ = false) ∧ G < X.heap.size) :
    (∀ i, i < 7 * (n + 1) → (((X.drew).setCell ⟨B, 5, none⟩ (.slice (some ⟨G, of 5, none⟩) (n + 1) (n + 1))).setCell ⟨B, 6, none⟩ (.slice (some ⟨G, of 6, none⟩) (n + 1) (n + 1))).cell? ⟨G, i, none⟩ = some (.int .u64 0) ∧ (((X.drew).setCell ⟨B, 5, none⟩ (.slice (some ⟨G, of 5, none⟩) (n + 1) (n + 1))).setCell ⟨B, 6, none⟩ (.slice (some ⟨G, of 6, none⟩) (n + 1) (n + 1))).frozen? ⟨G, i, none⟩ = false) ∧ G < (((X.drew).setCell ⟨B, 5, none⟩ (.slice (some ⟨G, of 5, none⟩) (n + 1) (n + 1))).setCell ⟨B, 6, none⟩ (.slice (some ⟨G, of 6, none⟩) (n + 1) (n + 1))).heap.size := by
  refine ⟨fun i hi => ⟨?_, ?_⟩, by simpa using h.2⟩
  · rw [far_set _ _ _ _ _ _ hG, far_set _ _ _ _ _ _ hG]
    exact (h.1 i hi).1
  · rw [World.frozen?_setCell, World.frozen?_setCell]
    exact (h.1 i hi).2

end Go.Proofs.Qxb6608872a
