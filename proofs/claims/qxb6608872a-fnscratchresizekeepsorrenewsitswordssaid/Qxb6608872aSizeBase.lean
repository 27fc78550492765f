import Derived.Test.Qxb6608872aRows
import Derived.Test.Qxb6608872aPlan
import Derived.WalkKit
import Derived.ProofKit
import Derived.OpenShut
import Derived.BigQuiet
import Derived.Deep.QuietTactic
import Derived.WalkSpells
import Derived.Deep.OwnRows
namespace Go.Proofs.Qxb6608872a
open Go.RowKit Go.Deep

theorem info29 : (Try.prog.info? 29).map (fun i => (i.zero, i.size, i.bytes)) = some (some (.int .u64 0), 1, 8) := by kernel_rfl

theorem grown_drew {w w' : World} {r : Option Nat} (h : w.grownBy w' r) : w.grownBy w'.drew r := ⟨h.os, h.tape, h.output, h.size, h.block⟩
theorem grown_setCell {w w' : World} {B : Nat} (h : w.grownBy w' (some B)) {p : Addr} (hp : p.block = B) (v : Value) : w.grownBy (w'.setCell p v) (some B) :=
  ⟨h.os, h.tape, h.output, by simpa using h.size, fun k hk hne => (Below.heap_setCell _ _ _ _ (fun e => hne (by rw [e, hp]))).trans (h.block k hk hne)⟩
theorem grown_of_below {w w' : World} {B : Nat} (h : Below w.heap.size w w') : w.grownBy w' (some B) := ⟨h.os, h.tape, h.output, h.size, fun k hk _ => h.block k hk⟩

/-- Slots that code may read, kept over a plan's end. -/
theorem wp_env {P : Program} {code : Code} {Q : Exit → Act → World → Prop} {vals ext : List (Tmp × Value)} {a : Act} {w : World} {z : Nat} (hz : a.tmps.size = z) (hd : a.defers = []) (he : EnvOk a.eval ext)
    (hex : (ext.all fun p => vals.all fun q => q.1 != p.1) = true) (h : ∀ a', a'.tmps.size = z → a'.defers = [] → EnvOk a'.eval ext → code.wp P Q a' w) : code.wp P Q (putAll a vals) w :=
  h _ ((putAll_size _ _).trans hz) ((putAll_defers _ _).trans hd) (env_ext vals a ext hex he)

/-- The scratch at block B: seven numbers of k words with room for c, over block G. -/
structure Sized (B G k c : Nat) (of : Nat → Nat) (w : World) : Prop where
  c0 : w.cell? ⟨B, 0, none⟩ = some (.slice (some ⟨G, of 0, none⟩) k c)
  c1 : w.cell? ⟨B, 1, none⟩ = some (.slice (some ⟨G, of 1, none⟩) k c)
  c2 : w.cell? ⟨B, 2, none⟩ = some (.slice (some ⟨G, of 2, none⟩) k c)
  c3 : w.cell? ⟨B, 3, none⟩ = some (.slice (some ⟨G, of 3, none⟩) k c)
  c4 : w.cell? ⟨B, 4, none⟩ = some (.slice (some ⟨G, of 4, none⟩) k c)
  c5 : w.cell? ⟨B, 5, none⟩ = some (.slice (some ⟨G, of 5, none⟩) k c)
  c6 : w.cell? ⟨B, 6, none⟩ = some (.slice (some ⟨G, of 6, none⟩) k c)
  f0 : w.frozen? ⟨B, 0, none⟩ = false
  f1 : w.frozen? ⟨B, 1, none⟩ = false
  f2 : w.frozen? ⟨B, 2, none⟩ = false
  f3 : w.frozen? ⟨B, 3, none⟩ = false
  f4 : w.frozen? ⟨B, 4, none⟩ = false
  f5 : w.frozen? ⟨B, 5, none⟩ = false
  f6 : w.frozen? ⟨B, 6, none⟩ = false

/-- Between the two statements that cut the numbers: five have been cut. -/
structure Mid (B G n k c : Nat) (of : Nat → Nat) (w X : World) : Prop where
  c0 : X.cell? ⟨B, 0, none⟩ = some (.slice (some ⟨G, of 0, none⟩) (n + 1) c)
  c1 : X.cell? ⟨B, 1, none⟩ = some (.slice (some ⟨G, of 1, none⟩) (n + 1) c)
  c2 : X.cell? ⟨B, 2, none⟩ = some (.slice (some ⟨G, of 2, none⟩) (n + 1) c)
  c3 : X.cell? ⟨B, 3, none⟩ = some (.slice (some ⟨G, of 3, none⟩) (n + 1) c)
  c4 : X.cell? ⟨B, 4, none⟩ = some (.slice (some ⟨G, of 4, none⟩) (n + 1) c)
  c5 : X.cell? ⟨B, 5, none⟩ = some (.slice (some ⟨G, of 5, none⟩) k c)
  c6 : X.cell? ⟨B, 6, none⟩ = some (.slice (some ⟨G, of 6, none⟩) k c)
  f0 : X.frozen? ⟨B, 0, none⟩ = false
  f1 : X.frozen? ⟨B, 1, none⟩ = false
  f2 : X.frozen? ⟨B, 2, none⟩ = false
  f3 : X.frozen? ⟨B, 3, none⟩ = false
  f4 : X.frozen? ⟨B, 4, none⟩ = false
  f5 : X.frozen? ⟨B, 5, none⟩ = false
  f6 : X.frozen? ⟨B, 6, none⟩ = false
  grown : w.grownBy X (some B)

theorem step_cell {W W' : World} {B i : Nat} {u v : Value} (hW : W' = W.setCell ⟨B, i, none⟩ v) (hu : W.cell? ⟨B, i, none⟩ = some u) :
    (∀ j, j ≠ i → W'.cell? ⟨B, j, none⟩ = W.cell? ⟨B, j, none⟩) ∧ W'.cell? ⟨B, i, none⟩ = some v ∧ (∀ j, W'.frozen? ⟨B, j, none⟩ = W.frozen? ⟨B, j, none⟩) ∧ (∀ b j, b ≠ B → W'.cell? ⟨b, j, none⟩ = W.cell? ⟨b, j, none⟩) := by
  subst hW
  refine ⟨fun j h => World.cell?_setCell_other _ _ _ _ (fun e => h (by cases e; rfl)), World.cell?_setCell_same _ _ _ hu, fun j => World.frozen?_setCell _ _ _ _, fun b j h => World.cell?_setCell_other _ _ _ _ (fun e => h (by cases e; rfl))⟩

theorem chain5 {w V : World} {B G n k c bn : Nat} {of : Nat → Nat} (hs : Sized B G k c of V) (hVn : V.cell? ⟨bn, 0, none⟩ = some (.int .i64 (n : Int))) (hne : B < bn) (hg : w.grownBy V (some B)) :
    Mid B G n k c of w ((((((V.drew).setCell ⟨B, 0, none⟩ (.slice (some ⟨G, of 0, none⟩) (n + 1) c)).setCell ⟨B, 1, none⟩ (.slice (some ⟨G, of 1, none⟩) (n + 1) c)).setCell ⟨B, 2, none⟩ (.slice (some ⟨G, of 2, none⟩) (n + 1) c)).setCell ⟨B, 3, none⟩ (.slice (some ⟨G, of 3, none⟩) (n + 1) c)).setCell ⟨B, 4, none⟩ (.slice (some ⟨G, of 4, none⟩) (n + 1) c)) ∧ ((((((V.drew).setCell ⟨B, 0, none⟩ (.slice (some ⟨G, of 0, none⟩) (n + 1) c)).setCell ⟨B, 1, none⟩ (.slice (some ⟨G, of 1, none⟩) (n + 1) c)).setCell ⟨B, 2, none⟩ (.slice (some ⟨G, of 2, none⟩) (n + 1) c)).setCell ⟨B, 3, none⟩ (.slice (some ⟨G, of 3, none⟩) (n + 1) c)).setCell ⟨B, 4, none⟩ (.slice (some ⟨G, of 4, none⟩) (n + 1) c)).cell? ⟨bn, 0, none⟩ = some (.int .i64 (n : Int)) := by
  obtain ⟨h0, h1, h2, h3, h4, h5, h6, f0, f1, f2, f3, f4, f5, f6⟩ := hs
  have hb : bn ≠ B := by omega
  obtain ⟨W0, hW0⟩ : ∃ W0, W0 = V.drew := ⟨_, rfl⟩
  have d0 : (∀ j, W0.cell? ⟨B, j, none⟩ = V.cell? ⟨B, j, none⟩) ∧ (∀ j, W0.frozen? ⟨B, j, none⟩ = V.frozen? ⟨B, j, none⟩) ∧ (∀ b j, W0.cell? ⟨b, j, none⟩ = V.cell? ⟨b, j, none⟩) := by subst hW0; exact ⟨fun _ => rfl, fun _ => rfl, fun _ _ => rfl⟩
  have g0 : w.grownBy W0 (some B) := by subst hW0; exact grown_drew hg
  rw [← hW0]
  obtain ⟨W1, hW1⟩ : ∃ W1, W1 = W0.setCell ⟨B, 0, none⟩ (.slice (some ⟨G, of 0, none⟩) (n + 1) c) := ⟨_, rfl⟩
  have p1 := step_cell hW1 ((d0.1 0).trans h0)
  have g1 : w.grownBy W1 (some B) := by rw [hW1]; exact grown_setCell g0 rfl _
  rw [← hW1]
  obtain ⟨W2, hW2⟩ : ∃ W2, W2 = W1.setCell ⟨B, 1, none⟩ (.slice (some ⟨G, of 1, none⟩) (n + 1) c) := ⟨_, rfl⟩
  have p2 := step_cell hW2 ((p1.1 1 (by omega)).trans ((d0.1 1).trans h1))
  have g2 : w.grownBy W2 (some B) := by rw [hW2]; exact grown_setCell g1 rfl _
  rw [← hW2]
  obtain ⟨W3, hW3⟩ : ∃ W3, W3 = W2.setCell ⟨B, 2, none⟩ (.slice (some ⟨G, of 2, none⟩) (n + 1) c) := ⟨_, rfl⟩
  have p3 := step_cell hW3 ((p2.1 2 (by omega)).trans ((p1.1 2 (by omega)).trans ((d0.1 2).trans h2)))
  have g3 : w.grownBy W3 (some B) := by rw [hW3]; exact grown_setCell g2 rfl _
  rw [← hW3]
  obtain ⟨W4, hW4⟩ : ∃ W4, W4 = W3.setCell ⟨B, 3, none⟩ (.slice (some ⟨G, of 3, none⟩) (n + 1) c) := ⟨_, rfl⟩
  have p4 := step_cell hW4 ((p3.1 3 (by omega)).trans ((p2.1 3 (by omega)).trans ((p1.1 3 (by omega)).trans ((d0.1 3).trans h3))))
  have g4 : w.grownBy W4 (some B) := by rw [hW4]; exact grown_setCell g3 rfl _
  rw [← hW4]
  obtain ⟨W5, hW5⟩ : ∃ W5, W5 = W4.setCell ⟨B, 4, none⟩ (.slice (some ⟨G, of 4, none⟩) (n + 1) c) := ⟨_, rfl⟩
  have p5 := step_cell hW5 ((p4.1 4 (by omega)).trans ((p3.1 4 (by omega)).trans ((p2.1 4 (by omega)).trans ((p1.1 4 (by omega)).trans ((d0.1 4).trans h4)))))
  have g5 : w.grownBy W5 (some B) := by rw [hW5]; exact grown_setCell g4 rfl _
  rw [← hW5]
  exact ⟨⟨(p5.1 0 (by omega)).trans ((p4.1 0 (by omega)).trans ((p3.1 0 (by omega)).trans ((p2.1 0 (by omega)).trans (p1.2.1)))), (p5.1 1 (by omega)).trans ((p4.1 1 (by omega)).trans ((p3.1 1 (by omega)).trans (p2.2.1))), (p5.1 2 (by omega)).trans ((p4.1 2 (by omega)).trans (p3.2.1)), (p5.1 3 (by omega)).trans (p4.2.1), p5.2.1, (p5.1 5 (by omega)).trans ((p4.1 5 (by omega)).trans ((p3.1 5 (by omega)).trans ((p2.1 5 (by omega)).trans ((p1.1 5 (by omega)).trans ((d0.1 5).trans h5))))), (p5.1 6 (by omega)).trans ((p4.1 6 (by omega)).trans ((p3.1 6 (by omega)).trans ((p2.1 6 (by omega)).trans ((p1.1 6 (by omega)).trans ((d0.1 6).trans h6))))), (p5.2.2.1 0).trans ((p4.2.2.1 0).trans ((p3.2.2.1 0).trans ((p2.2.2.1 0).trans ((p1.2.2.1 0).trans ((d0.2.1 0).trans f0))))), (p5.2.2.1 1).trans ((p4.2.2.1 1).trans ((p3.2.2.1 1).trans ((p2.2.2.1 1).trans ((p1.2.2.1 1).trans ((d0.2.1 1).trans f1))))), (p5.2.2.1 2).trans ((p4.2.2.1 2).trans ((p3.2.2.1 2).trans ((p2.2.2.1 2).trans ((p1.2.2.1 2).trans ((d0.2.1 2).trans f2))))), (p5.2.2.1 3).trans ((p4.2.2.1 3).trans ((p3.2.2.1 3).trans ((p2.2.2.1 3).trans ((p1.2.2.1 3).trans ((d0.2.1 3).trans f3))))), (p5.2.2.1 4).trans ((p4.2.2.1 4).trans ((p3.2.2.1 4).trans ((p2.2.2.1 4).trans ((p1.2.2.1 4).trans ((d0.2.1 4).trans f4))))), (p5.2.2.1 5).trans ((p4.2.2.1 5).trans ((p3.2.2.1 5).trans ((p2.2.2.1 5).trans ((p1.2.2.1 5).trans ((d0.2.1 5).trans f5))))), (p5.2.2.1 6).trans ((p4.2.2.1 6).trans ((p3.2.2.1 6).trans ((p2.2.2.1 6).trans ((p1.2.2.1 6).trans ((d0.2.1 6).trans f6))))), g5⟩, (p5.2.2.2 bn 0 hb).trans ((p4.2.2.2 bn 0 hb).trans ((p3.2.2.2 bn 0 hb).trans ((p2.2.2.2 bn 0 hb).trans ((p1.2.2.2 bn 0 hb).trans ((d0.2.2 bn 0).trans hVn)))))⟩

theorem chain2 {w X : World} {B G n k c : Nat} {of : Nat → Nat} (hs : Mid B G n k c of w X) : Sized B G (n + 1) c of (((X.drew).setCell ⟨B, 5, none⟩ (.slice (some ⟨G, of 5, none⟩) (n + 1) c)).setCell ⟨B, 6, none⟩ (.slice (some ⟨G, of 6, none⟩) (n + 1) c)) ∧ w.grownBy (((X.drew).setCell ⟨B, 5, none⟩ (.slice (some ⟨G, of 5, none⟩) (n + 1) c)).setCell ⟨B, 6, none⟩ (.slice (some ⟨G, of 6, none⟩) (n + 1) c)) (some B) := by
  obtain ⟨h0, h1, h2, h3, h4, h5, h6, f0, f1, f2, f3, f4, f5, f6, hg⟩ := hs
  obtain ⟨W0, hW0⟩ : ∃ W0, W0 = X.drew := ⟨_, rfl⟩
  have d0 : (∀ j, W0.cell? ⟨B, j, none⟩ = X.cell? ⟨B, j, none⟩) ∧ (∀ j, W0.frozen? ⟨B, j, none⟩ = X.frozen? ⟨B, j, none⟩) ∧ (∀ b j, W0.cell? ⟨b, j, none⟩ = X.cell? ⟨b, j, none⟩) := by subst hW0; exact ⟨fun _ => rfl, fun _ => rfl, fun _ _ => rfl⟩
  have g0 : w.grownBy W0 (some B) := by subst hW0; exact grown_drew hg
  rw [← hW0]
  obtain ⟨W1, hW1⟩ : ∃ W1, W1 = W0.setCell ⟨B, 5, none⟩ (.slice (some ⟨G, of 5, none⟩) (n + 1) c) := ⟨_, rfl⟩
  have p1 := step_cell hW1 ((d0.1 5).trans h5)
  have g1 : w.grownBy W1 (some B) := by rw [hW1]; exact grown_setCell g0 rfl _
  rw [← hW1]
  obtain ⟨W2, hW2⟩ : ∃ W2, W2 = W1.setCell ⟨B, 6, none⟩ (.slice (some ⟨G, of 6, none⟩) (n + 1) c) := ⟨_, rfl⟩
  have p2 := step_cell hW2 ((p1.1 6 (by omega)).trans ((d0.1 6).trans h6))
  have g2 : w.grownBy W2 (some B) := by rw [hW2]; exact grown_setCell g1 rfl _
  rw [← hW2]
  exact ⟨⟨(p2.1 0 (by omega)).trans ((p1.1 0 (by omega)).trans ((d0.1 0).trans h0)), (p2.1 1 (by omega)).trans ((p1.1 1 (by omega)).trans ((d0.1 1).trans h1)), (p2.1 2 (by omega)).trans ((p1.1 2 (by omega)).trans ((d0.1 2).trans h2)), (p2.1 3 (by omega)).trans ((p1.1 3 (by omega)).trans ((d0.1 3).trans h3)), (p2.1 4 (by omega)).trans ((p1.1 4 (by omega)).trans ((d0.1 4).trans h4)), (p2.1 5 (by omega)).trans (p1.2.1), p2.2.1, (p2.2.2.1 0).trans ((p1.2.2.1 0).trans ((d0.2.1 0).trans f0)), (p2.2.2.1 1).trans ((p1.2.2.1 1).trans ((d0.2.1 1).trans f1)), (p2.2.2.1 2).trans ((p1.2.2.1 2).trans ((d0.2.1 2).trans f2)), (p2.2.2.1 3).trans ((p1.2.2.1 3).trans ((d0.2.1 3).trans f3)), (p2.2.2.1 4).trans ((p1.2.2.1 4).trans ((d0.2.1 4).trans f4)), (p2.2.2.1 5).trans ((p1.2.2.1 5).trans ((d0.2.1 5).trans f5)), (p2.2.2.1 6).trans ((p1.2.2.1 6).trans ((d0.2.1 6).trans f6))⟩, g2⟩

/-- What size leaves where there is room. -/
def KeepPost (B G n c : Nat) (of : Nat → Nat) (w : World) (e : Ending) (w' : World) : Prop := e = .returned (.tuple #[]) ∧ Sized B G (n + 1) c of w' ∧ w.grownBy w' (some B)

end Go.Proofs.Qxb6608872a
