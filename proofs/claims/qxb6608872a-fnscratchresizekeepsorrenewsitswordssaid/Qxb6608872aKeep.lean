import Derived.Test.Qxb6608872aSizeBase
namespace Go.Proofs.Qxb6608872a
open Go.RowKit Go.Deep

set_option maxHeartbeats 4000000 in
set_option maxRecDepth 100000 in
theorem size_keep (B n G c k : Nat) (of : Nat → Nat) (w : World) (hn : n ≤ 65536) (hc : n + 1 ≤ c) (hB : B < w.heap.size) (hs : Sized B G k c of w) :
    Calls Try.prog 8 #[.pointer (some ⟨B, 0, none⟩), .int .i64 n] w (KeepPost B G n c of w) := by
  obtain ⟨h0, h1, h2, h3, h4, h5, h6, f0, f1, f2, f3, f4, f5, f6⟩ := hs
  have hlt : ¬ (c : Int) < (n : Int) + 1 := by omega
  obtain ⟨bn, hbn⟩ : ∃ bn, Hid (w.heap.size = bn) := ⟨_, rfl⟩
  have hne : B < bn := by have := hbn.out; omega
  go_enter Try.func8, Try.ntmps8
  go_wp2
  go_quiet (fail)
  go_wp2_with fail
  have hV0 : ∀ j, ((w.alloc (.cells #[.int .i64 (n : Int)] 3)).drewN nq).cell? ⟨B, j, none⟩ = w.cell? ⟨B, j, none⟩ := by intro j; go_simp
  have hVf : ∀ j, ((w.alloc (.cells #[.int .i64 (n : Int)] 3)).drewN nq).frozen? ⟨B, j, none⟩ = w.frozen? ⟨B, j, none⟩ := by intro j; go_simp
  have hVn : ((w.alloc (.cells #[.int .i64 (n : Int)] 3)).drewN nq).cell? ⟨w.heap.size, 0, none⟩ = some (.int .i64 (n : Int)) := by go_simp
  have hVb : Below w.heap.size w ((w.alloc (.cells #[.int .i64 (n : Int)] 3)).drewN nq) := ((Below.refl _ _).alloc (Nat.le_refl _) _).trans ⟨rfl, rfl, rfl, Nat.le_refl _, fun _ _ => rfl⟩
  revert hV0 hVf hVn hVb
  generalize ((w.alloc (.cells #[.int .i64 (n : Int)] 3)).drewN nq) = V
  intro hV0 hVf hVn hVb
  rw [hbn.out] at hVn
  rw [hbn.out]
  rw [← hV0] at h0 h1 h2 h3 h4 h5 h6
  rw [← hVf] at f0 f1 f2 f3 f4 f5 f6
  clear hV0 hVf
  refine wp_region_plan2 (by kernel_rfl) [(54, .pointer (some ⟨B, 0, none⟩)), (55, .pointer (some ⟨B, 0, none⟩)), (56, .pointer (some ⟨B, 0, none⟩)), (57, .pointer (some ⟨B, 0, none⟩)), (58, .pointer (some ⟨B, 0, none⟩)), (59, .pointer (some ⟨B, 0, none⟩)), (60, .pointer (some ⟨B, 0, none⟩)), (61, .pointer (some ⟨B, 0, none⟩)), (62, .slice (some ⟨G, of 0, none⟩) k c), (63, .int .i64 (n : Int)), (64, .int .i64 ((n : Int) + 1)), (65, .slice (some ⟨G, of 0, none⟩) (n + 1) c), (66, .pointer (some ⟨B, 0, none⟩)), (67, .pointer (some ⟨B, 0, none⟩)), (68, .pointer (some ⟨B, 1, none⟩)), (69, .slice (some ⟨G, of 1, none⟩) k c), (70, .int .i64 (n : Int)), (71, .int .i64 ((n : Int) + 1)), (72, .slice (some ⟨G, of 1, none⟩) (n + 1) c), (73, .pointer (some ⟨B, 0, none⟩)), (74, .pointer (some ⟨B, 0, none⟩)), (75, .pointer (some ⟨B, 2, none⟩)), (76, .slice (some ⟨G, of 2, none⟩) k c), (77, .int .i64 (n : Int)), (78, .int .i64 ((n : Int) + 1)), (79, .slice (some ⟨G, of 2, none⟩) (n + 1) c), (80, .pointer (some ⟨B, 0, none⟩)), (81, .pointer (some ⟨B, 0, none⟩)), (82, .pointer (some ⟨B, 3, none⟩)), (83, .slice (some ⟨G, of 3, none⟩) k c), (84, .int .i64 (n : Int)), (85, .int .i64 ((n : Int) + 1)), (86, .slice (some ⟨G, of 3, none⟩) (n + 1) c), (87, .pointer (some ⟨B, 0, none⟩)), (88, .pointer (some ⟨B, 0, none⟩)), (89, .pointer (some ⟨B, 4, none⟩)), (90, .slice (some ⟨G, of 4, none⟩) k c), (91, .int .i64 (n : Int)), (92, .int .i64 ((n : Int) + 1)), (93, .slice (some ⟨G, of 4, none⟩) (n + 1) c), (94, .pointer (some ⟨B, 0, none⟩)), (95, .pointer (some ⟨B, 0, none⟩)), (96, .pointer (some ⟨B, 0, none⟩)), (97, .pointer (some ⟨B, 1, none⟩)), (98, .pointer (some ⟨B, 0, none⟩)), (99, .pointer (some ⟨B, 2, none⟩)), (100, .pointer (some ⟨B, 0, none⟩)), (101, .pointer (some ⟨B, 3, none⟩)), (102, .pointer (some ⟨B, 0, none⟩)), (103, .pointer (some ⟨B, 4, none⟩))] [(0, .pointer (some ⟨B, 0, none⟩)), (3, .pointer (some ⟨bn, 0, none⟩))] (fun w' => w'.cell? ⟨bn, 0, none⟩ = some (.int .i64 (n : Int))) [(54, (((((V.drew).setCell ⟨B, 0, none⟩ (.slice (some ⟨G, of 0, none⟩) (n + 1) c)).setCell ⟨B, 1, none⟩ (.slice (some ⟨G, of 1, none⟩) (n + 1) c)).setCell ⟨B, 2, none⟩ (.slice (some ⟨G, of 2, none⟩) (n + 1) c)).setCell ⟨B, 3, none⟩ (.slice (some ⟨G, of 3, none⟩) (n + 1) c)).setCell ⟨B, 4, none⟩ (.slice (some ⟨G, of 4, none⟩) (n + 1) c)), (51, ((((V.drew).setCell ⟨B, 0, none⟩ (.slice (some ⟨G, of 0, none⟩) (n + 1) c)).setCell ⟨B, 1, none⟩ (.slice (some ⟨G, of 1, none⟩) (n + 1) c)).setCell ⟨B, 2, none⟩ (.slice (some ⟨G, of 2, none⟩) (n + 1) c)).setCell ⟨B, 3, none⟩ (.slice (some ⟨G, of 3, none⟩) (n + 1) c)), (48, (((V.drew).setCell ⟨B, 0, none⟩ (.slice (some ⟨G, of 0, none⟩) (n + 1) c)).setCell ⟨B, 1, none⟩ (.slice (some ⟨G, of 1, none⟩) (n + 1) c)).setCell ⟨B, 2, none⟩ (.slice (some ⟨G, of 2, none⟩) (n + 1) c)), (45, ((V.drew).setCell ⟨B, 0, none⟩ (.slice (some ⟨G, of 0, none⟩) (n + 1) c)).setCell ⟨B, 1, none⟩ (.slice (some ⟨G, of 1, none⟩) (n + 1) c)), (42, (V.drew).setCell ⟨B, 0, none⟩ (.slice (some ⟨G, of 0, none⟩) (n + 1) c))] 55 124 rfl rfl (by kernel_rfl) (by kernel_rfl) (by kernel_rfl) (by kernel_rfl) (by kernel_rfl) (by kernel_rfl) ?henv5 ?hN5 ?hM5 ?hop5 ?hQ5
  case henv5 => exact ⟨rfl, rfl, trivial⟩
  case hN5 => go_simp
  case hM5 =>
    intro p hp
    simp only [List.mem_cons, List.mem_nil_iff, or_false] at hp
    rcases hp with rfl | rfl | rfl | rfl | rfl
    all_goals go_simp
  case hop5 =>
    intro ρ he he2 hc
    have hwr : IntKind.i64.wrap ((n : Int) + 1) = (n : Int) + 1 := by rw [IntKind.wrap_i64]; omega
    obtain ⟨e0, e3, _⟩ := he
    obtain ⟨e54, e55, e56, e57, e58, e59, e60, e61, e62, e63, e64, e65, e66, e67, e68, e69, e70, e71, e72, e73, e74, e75, e76, e77, e78, e79, e80, e81, e82, e83, e84, e85, e86, e87, e88, e89, e90, e91, e92, e93, e94, e95, e96, e97, e98, e99, e100, e101, e102, e103, _⟩ := he2
    refine ⟨⟨⟨⟨⟨⟨⟨⟨⟨⟨⟨⟨⟨⟨⟨⟨⟨⟨⟨⟨⟨⟨⟨⟨⟨⟨⟨⟨⟨⟨⟨⟨⟨⟨⟨⟨⟨⟨⟨⟨⟨⟨⟨⟨⟨⟨⟨⟨⟨⟨⟨⟨⟨⟨⟨trivial, ?_⟩, ?_⟩, ?_⟩, ?_⟩, ?_⟩, ?_⟩, ?_⟩, ?_⟩, ?_⟩, ?_⟩, ?_⟩, ?_⟩, ?_⟩, ?_⟩, ?_⟩, ?_⟩, ?_⟩, ?_⟩, ?_⟩, ?_⟩, ?_⟩, ?_⟩, ?_⟩, ?_⟩, ?_⟩, ?_⟩, ?_⟩, ?_⟩, ?_⟩, ?_⟩, ?_⟩, ?_⟩, ?_⟩, ?_⟩, ?_⟩, ?_⟩, ?_⟩, ?_⟩, ?_⟩, ?_⟩, ?_⟩, ?_⟩, ?_⟩, ?_⟩, ?_⟩, ?_⟩, ?_⟩, ?_⟩, ?_⟩, ?_⟩, ?_⟩, ?_⟩, ?_⟩, ?_⟩, ?_⟩
    · refine ⟨_, rfl, .inl ⟨_, rfl, rfl, fun w' hw' => ?_⟩⟩
      go_simp
    · refine ⟨_, rfl, .inl ⟨_, rfl, rfl, fun w' hw' => ?_⟩⟩
      go_simp
    · refine ⟨_, rfl, .inl ⟨_, rfl, rfl, fun w' hw' => ?_⟩⟩
      go_simp
    · refine ⟨_, rfl, .inl ⟨_, rfl, rfl, fun w' hw' => ?_⟩⟩
      go_simp
    · refine ⟨_, rfl, .inl ⟨_, rfl, rfl, fun w' hw' => ?_⟩⟩
      go_simp
    · refine ⟨_, rfl, .inl ⟨_, rfl, rfl, fun w' hw' => ?_⟩⟩
      go_simp
    · refine ⟨_, rfl, .inl ⟨_, rfl, rfl, fun w' hw' => ?_⟩⟩
      go_simp
    · refine ⟨_, rfl, .inl ⟨_, rfl, rfl, fun w' hw' => ?_⟩⟩
      go_simp
    · refine ⟨_, rfl, .inr (.inl ⟨_, rfl, by kernel_rfl, ?_⟩)⟩
      go_simp
    · refine ⟨_, rfl, .inl ⟨_, rfl, rfl, fun w' hw' => ?_⟩⟩
      go_simp
    · refine ⟨_, rfl, .inl ⟨_, rfl, rfl, fun w' hw' => ?_⟩⟩
      go_simp
    · refine ⟨_, rfl, .inl ⟨_, rfl, rfl, fun w' hw' => ?_⟩⟩
      go_simp; intro hx; omega
    · refine ⟨_, rfl, .inl ⟨_, rfl, rfl, fun w' hw' => ?_⟩⟩
      go_simp
    · refine ⟨_, rfl, .inl ⟨_, rfl, rfl, fun w' hw' => ?_⟩⟩
      go_simp
    · refine ⟨_, rfl, .inl ⟨_, rfl, rfl, fun w' hw' => ?_⟩⟩
      go_simp
    · refine ⟨_, rfl, .inr (.inl ⟨_, rfl, by kernel_rfl, ?_⟩)⟩
      go_simp
    · refine ⟨_, rfl, .inl ⟨_, rfl, rfl, fun w' hw' => ?_⟩⟩
      go_simp
    · refine ⟨_, rfl, .inl ⟨_, rfl, rfl, fun w' hw' => ?_⟩⟩
      go_simp
    · refine ⟨_, rfl, .inl ⟨_, rfl, rfl, fun w' hw' => ?_⟩⟩
      go_simp; intro hx; omega
    · refine ⟨_, rfl, .inl ⟨_, rfl, rfl, fun w' hw' => ?_⟩⟩
      go_simp
    · refine ⟨_, rfl, .inl ⟨_, rfl, rfl, fun w' hw' => ?_⟩⟩
      go_simp
    · refine ⟨_, rfl, .inl ⟨_, rfl, rfl, fun w' hw' => ?_⟩⟩
      go_simp
    · refine ⟨_, rfl, .inr (.inl ⟨_, rfl, by kernel_rfl, ?_⟩)⟩
      go_simp
    · refine ⟨_, rfl, .inl ⟨_, rfl, rfl, fun w' hw' => ?_⟩⟩
      go_simp
    · refine ⟨_, rfl, .inl ⟨_, rfl, rfl, fun w' hw' => ?_⟩⟩
      go_simp
    · refine ⟨_, rfl, .inl ⟨_, rfl, rfl, fun w' hw' => ?_⟩⟩
      go_simp; intro hx; omega
    · refine ⟨_, rfl, .inl ⟨_, rfl, rfl, fun w' hw' => ?_⟩⟩
      go_simp
    · refine ⟨_, rfl, .inl ⟨_, rfl, rfl, fun w' hw' => ?_⟩⟩
      go_simp
    · refine ⟨_, rfl, .inl ⟨_, rfl, rfl, fun w' hw' => ?_⟩⟩
      go_simp
    · refine ⟨_, rfl, .inr (.inl ⟨_, rfl, by kernel_rfl, ?_⟩)⟩
      go_simp
    · refine ⟨_, rfl, .inl ⟨_, rfl, rfl, fun w' hw' => ?_⟩⟩
      go_simp
    · refine ⟨_, rfl, .inl ⟨_, rfl, rfl, fun w' hw' => ?_⟩⟩
      go_simp
    · refine ⟨_, rfl, .inl ⟨_, rfl, rfl, fun w' hw' => ?_⟩⟩
      go_simp; intro hx; omega
    · refine ⟨_, rfl, .inl ⟨_, rfl, rfl, fun w' hw' => ?_⟩⟩
      go_simp
    · refine ⟨_, rfl, .inl ⟨_, rfl, rfl, fun w' hw' => ?_⟩⟩
      go_simp
    · refine ⟨_, rfl, .inl ⟨_, rfl, rfl, fun w' hw' => ?_⟩⟩
      go_simp
    · refine ⟨_, rfl, .inr (.inl ⟨_, rfl, by kernel_rfl, ?_⟩)⟩
      go_simp
    · refine ⟨_, rfl, .inl ⟨_, rfl, rfl, fun w' hw' => ?_⟩⟩
      go_simp
    · refine ⟨_, rfl, .inl ⟨_, rfl, rfl, fun w' hw' => ?_⟩⟩
      go_simp
    · refine ⟨_, rfl, .inl ⟨_, rfl, rfl, fun w' hw' => ?_⟩⟩
      go_simp; intro hx; omega
    · refine ⟨_, rfl, .inl ⟨_, rfl, rfl, fun w' hw' => ?_⟩⟩
      go_simp
    · refine ⟨_, rfl, .inl ⟨_, rfl, rfl, fun w' hw' => ?_⟩⟩
      go_simp
    · refine ⟨_, rfl, .inr (.inr ⟨[(54, (((((V.drew).setCell ⟨B, 0, none⟩ (.slice (some ⟨G, of 0, none⟩) (n + 1) c)).setCell ⟨B, 1, none⟩ (.slice (some ⟨G, of 1, none⟩) (n + 1) c)).setCell ⟨B, 2, none⟩ (.slice (some ⟨G, of 2, none⟩) (n + 1) c)).setCell ⟨B, 3, none⟩ (.slice (some ⟨G, of 3, none⟩) (n + 1) c)).setCell ⟨B, 4, none⟩ (.slice (some ⟨G, of 4, none⟩) (n + 1) c)), (51, ((((V.drew).setCell ⟨B, 0, none⟩ (.slice (some ⟨G, of 0, none⟩) (n + 1) c)).setCell ⟨B, 1, none⟩ (.slice (some ⟨G, of 1, none⟩) (n + 1) c)).setCell ⟨B, 2, none⟩ (.slice (some ⟨G, of 2, none⟩) (n + 1) c)).setCell ⟨B, 3, none⟩ (.slice (some ⟨G, of 3, none⟩) (n + 1) c)), (48, (((V.drew).setCell ⟨B, 0, none⟩ (.slice (some ⟨G, of 0, none⟩) (n + 1) c)).setCell ⟨B, 1, none⟩ (.slice (some ⟨G, of 1, none⟩) (n + 1) c)).setCell ⟨B, 2, none⟩ (.slice (some ⟨G, of 2, none⟩) (n + 1) c)), (45, ((V.drew).setCell ⟨B, 0, none⟩ (.slice (some ⟨G, of 0, none⟩) (n + 1) c)).setCell ⟨B, 1, none⟩ (.slice (some ⟨G, of 1, none⟩) (n + 1) c))], [], (V.drew).setCell ⟨B, 0, none⟩ (.slice (some ⟨G, of 0, none⟩) (n + 1) c), rfl, rfl, by kernel_rfl, by kernel_rfl, by kernel_rfl, ?_⟩)⟩
      simp only [headWorld]
      go_simp
    · refine ⟨_, rfl, .inl ⟨_, rfl, rfl, fun w' hw' => ?_⟩⟩
      go_simp
    · refine ⟨_, rfl, .inl ⟨_, rfl, rfl, fun w' hw' => ?_⟩⟩
      go_simp
    · refine ⟨_, rfl, .inr (.inr ⟨[(54, (((((V.drew).setCell ⟨B, 0, none⟩ (.slice (some ⟨G, of 0, none⟩) (n + 1) c)).setCell ⟨B, 1, none⟩ (.slice (some ⟨G, of 1, none⟩) (n + 1) c)).setCell ⟨B, 2, none⟩ (.slice (some ⟨G, of 2, none⟩) (n + 1) c)).setCell ⟨B, 3, none⟩ (.slice (some ⟨G, of 3, none⟩) (n + 1) c)).setCell ⟨B, 4, none⟩ (.slice (some ⟨G, of 4, none⟩) (n + 1) c)), (51, ((((V.drew).setCell ⟨B, 0, none⟩ (.slice (some ⟨G, of 0, none⟩) (n + 1) c)).setCell ⟨B, 1, none⟩ (.slice (some ⟨G, of 1, none⟩) (n + 1) c)).setCell ⟨B, 2, none⟩ (.slice (some ⟨G, of 2, none⟩) (n + 1) c)).setCell ⟨B, 3, none⟩ (.slice (some ⟨G, of 3, none⟩) (n + 1) c)), (48, (((V.drew).setCell ⟨B, 0, none⟩ (.slice (some ⟨G, of 0, none⟩) (n + 1) c)).setCell ⟨B, 1, none⟩ (.slice (some ⟨G, of 1, none⟩) (n + 1) c)).setCell ⟨B, 2, none⟩ (.slice (some ⟨G, of 2, none⟩) (n + 1) c))], [(42, (V.drew).setCell ⟨B, 0, none⟩ (.slice (some ⟨G, of 0, none⟩) (n + 1) c))], ((V.drew).setCell ⟨B, 0, none⟩ (.slice (some ⟨G, of 0, none⟩) (n + 1) c)).setCell ⟨B, 1, none⟩ (.slice (some ⟨G, of 1, none⟩) (n + 1) c), rfl, rfl, by kernel_rfl, by kernel_rfl, by kernel_rfl, ?_⟩)⟩
      simp only [headWorld]
      go_simp
    · refine ⟨_, rfl, .inl ⟨_, rfl, rfl, fun w' hw' => ?_⟩⟩
      go_simp
    · refine ⟨_, rfl, .inl ⟨_, rfl, rfl, fun w' hw' => ?_⟩⟩
      go_simp
    · refine ⟨_, rfl, .inr (.inr ⟨[(54, (((((V.drew).setCell ⟨B, 0, none⟩ (.slice (some ⟨G, of 0, none⟩) (n + 1) c)).setCell ⟨B, 1, none⟩ (.slice (some ⟨G, of 1, none⟩) (n + 1) c)).setCell ⟨B, 2, none⟩ (.slice (some ⟨G, of 2, none⟩) (n + 1) c)).setCell ⟨B, 3, none⟩ (.slice (some ⟨G, of 3, none⟩) (n + 1) c)).setCell ⟨B, 4, none⟩ (.slice (some ⟨G, of 4, none⟩) (n + 1) c)), (51, ((((V.drew).setCell ⟨B, 0, none⟩ (.slice (some ⟨G, of 0, none⟩) (n + 1) c)).setCell ⟨B, 1, none⟩ (.slice (some ⟨G, of 1, none⟩) (n + 1) c)).setCell ⟨B, 2, none⟩ (.slice (some ⟨G, of 2, none⟩) (n + 1) c)).setCell ⟨B, 3, none⟩ (.slice (some ⟨G, of 3, none⟩) (n + 1) c))], [(45, ((V.drew).setCell ⟨B, 0, none⟩ (.slice (some ⟨G, of 0, none⟩) (n + 1) c)).setCell ⟨B, 1, none⟩ (.slice (some ⟨G, of 1, none⟩) (n + 1) c)), (42, (V.drew).setCell ⟨B, 0, none⟩ (.slice (some ⟨G, of 0, none⟩) (n + 1) c))], (((V.drew).setCell ⟨B, 0, none⟩ (.slice (some ⟨G, of 0, none⟩) (n + 1) c)).setCell ⟨B, 1, none⟩ (.slice (some ⟨G, of 1, none⟩) (n + 1) c)).setCell ⟨B, 2, none⟩ (.slice (some ⟨G, of 2, none⟩) (n + 1) c), rfl, rfl, by kernel_rfl, by kernel_rfl, by kernel_rfl, ?_⟩)⟩
      simp only [headWorld]
      go_simp
    · refine ⟨_, rfl, .inl ⟨_, rfl, rfl, fun w' hw' => ?_⟩⟩
      go_simp
    · refine ⟨_, rfl, .inl ⟨_, rfl, rfl, fun w' hw' => ?_⟩⟩
      go_simp
    · refine ⟨_, rfl, .inr (.inr ⟨[(54, (((((V.drew).setCell ⟨B, 0, none⟩ (.slice (some ⟨G, of 0, none⟩) (n + 1) c)).setCell ⟨B, 1, none⟩ (.slice (some ⟨G, of 1, none⟩) (n + 1) c)).setCell ⟨B, 2, none⟩ (.slice (some ⟨G, of 2, none⟩) (n + 1) c)).setCell ⟨B, 3, none⟩ (.slice (some ⟨G, of 3, none⟩) (n + 1) c)).setCell ⟨B, 4, none⟩ (.slice (some ⟨G, of 4, none⟩) (n + 1) c))], [(48, (((V.drew).setCell ⟨B, 0, none⟩ (.slice (some ⟨G, of 0, none⟩) (n + 1) c)).setCell ⟨B, 1, none⟩ (.slice (some ⟨G, of 1, none⟩) (n + 1) c)).setCell ⟨B, 2, none⟩ (.slice (some ⟨G, of 2, none⟩) (n + 1) c)), (45, ((V.drew).setCell ⟨B, 0, none⟩ (.slice (some ⟨G, of 0, none⟩) (n + 1) c)).setCell ⟨B, 1, none⟩ (.slice (some ⟨G, of 1, none⟩) (n + 1) c)), (42, (V.drew).setCell ⟨B, 0, none⟩ (.slice (some ⟨G, of 0, none⟩) (n + 1) c))], ((((V.drew).setCell ⟨B, 0, none⟩ (.slice (some ⟨G, of 0, none⟩) (n + 1) c)).setCell ⟨B, 1, none⟩ (.slice (some ⟨G, of 1, none⟩) (n + 1) c)).setCell ⟨B, 2, none⟩ (.slice (some ⟨G, of 2, none⟩) (n + 1) c)).setCell ⟨B, 3, none⟩ (.slice (some ⟨G, of 3, none⟩) (n + 1) c), rfl, rfl, by kernel_rfl, by kernel_rfl, by kernel_rfl, ?_⟩)⟩
      simp only [headWorld]
      go_simp
    · refine ⟨_, rfl, .inl ⟨_, rfl, rfl, fun w' hw' => ?_⟩⟩
      go_simp
    · refine ⟨_, rfl, .inl ⟨_, rfl, rfl, fun w' hw' => ?_⟩⟩
      go_simp
    · refine ⟨_, rfl, .inr (.inr ⟨[], [(51, ((((V.drew).setCell ⟨B, 0, none⟩ (.slice (some ⟨G, of 0, none⟩) (n + 1) c)).setCell ⟨B, 1, none⟩ (.slice (some ⟨G, of 1, none⟩) (n + 1) c)).setCell ⟨B, 2, none⟩ (.slice (some ⟨G, of 2, none⟩) (n + 1) c)).setCell ⟨B, 3, none⟩ (.slice (some ⟨G, of 3, none⟩) (n + 1) c)), (48, (((V.drew).setCell ⟨B, 0, none⟩ (.slice (some ⟨G, of 0, none⟩) (n + 1) c)).setCell ⟨B, 1, none⟩ (.slice (some ⟨G, of 1, none⟩) (n + 1) c)).setCell ⟨B, 2, none⟩ (.slice (some ⟨G, of 2, none⟩) (n + 1) c)), (45, ((V.drew).setCell ⟨B, 0, none⟩ (.slice (some ⟨G, of 0, none⟩) (n + 1) c)).setCell ⟨B, 1, none⟩ (.slice (some ⟨G, of 1, none⟩) (n + 1) c)), (42, (V.drew).setCell ⟨B, 0, none⟩ (.slice (some ⟨G, of 0, none⟩) (n + 1) c))], (((((V.drew).setCell ⟨B, 0, none⟩ (.slice (some ⟨G, of 0, none⟩) (n + 1) c)).setCell ⟨B, 1, none⟩ (.slice (some ⟨G, of 1, none⟩) (n + 1) c)).setCell ⟨B, 2, none⟩ (.slice (some ⟨G, of 2, none⟩) (n + 1) c)).setCell ⟨B, 3, none⟩ (.slice (some ⟨G, of 3, none⟩) (n + 1) c)).setCell ⟨B, 4, none⟩ (.slice (some ⟨G, of 4, none⟩) (n + 1) c), rfl, rfl, by kernel_rfl, by kernel_rfl, by kernel_rfl, ?_⟩)⟩
      simp only [headWorld]
      go_simp
  case hQ5 =>
    simp only [headWorld]
    rename_i hK
    refine hK _ _ ?_
    refine wp_env (ext := [(0, .pointer (some ⟨B, 0, none⟩)), (3, .pointer (some ⟨bn, 0, none⟩))]) rfl rfl ⟨rfl, rfl, trivial⟩ (by kernel_rfl) ?_
    intro a1 hz1 hd1 ha0
    clear hK
    have hX := chain5 (w := w) (n := n) (of := of) ⟨h0, h1, h2, h3, h4, h5, h6, f0, f1, f2, f3, f4, f5, f6⟩ hVn hne (grown_of_below hVb)
    clear h0 h1 h2 h3 h4 h5 h6 f0 f1 f2 f3 f4 f5 f6 hVn
    revert hX
    generalize ((((((V.drew).setCell ⟨B, 0, none⟩ (.slice (some ⟨G, of 0, none⟩) (n + 1) c)).setCell ⟨B, 1, none⟩ (.slice (some ⟨G, of 1, none⟩) (n + 1) c)).setCell ⟨B, 2, none⟩ (.slice (some ⟨G, of 2, none⟩) (n + 1) c)).setCell ⟨B, 3, none⟩ (.slice (some ⟨G, of 3, none⟩) (n + 1) c)).setCell ⟨B, 4, none⟩ (.slice (some ⟨G, of 4, none⟩) (n + 1) c)) = X
    intro hX
    have HX : Hid (Mid B G n k c of w X ∧ X.cell? ⟨bn, 0, none⟩ = some (.int .i64 (n : Int))) := hX
    have xc5 := hX.1.c5
    have xc6 := hX.1.c6
    have xf5 := hX.1.f5
    have xf6 := hX.1.f6
    have xn := hX.2
    clear hX
    refine wp_region_plan2 (by kernel_rfl) [(104, .pointer (some ⟨B, 0, none⟩)), (105, .pointer (some ⟨B, 0, none⟩)), (106, .pointer (some ⟨B, 0, none⟩)), (107, .pointer (some ⟨B, 0, none⟩)), (108, .pointer (some ⟨B, 5, none⟩)), (109, .slice (some ⟨G, of 5, none⟩) k c), (110, .int .i64 (n : Int)), (111, .int .i64 ((n : Int) + 1)), (112, .slice (some ⟨G, of 5, none⟩) (n + 1) c), (113, .pointer (some ⟨B, 0, none⟩)), (114, .pointer (some ⟨B, 0, none⟩)), (115, .pointer (some ⟨B, 6, none⟩)), (116, .slice (some ⟨G, of 6, none⟩) k c), (117, .int .i64 (n : Int)), (118, .int .i64 ((n : Int) + 1)), (119, .slice (some ⟨G, of 6, none⟩) (n + 1) c), (120, .pointer (some ⟨B, 0, none⟩)), (121, .pointer (some ⟨B, 5, none⟩)), (122, .pointer (some ⟨B, 0, none⟩)), (123, .pointer (some ⟨B, 6, none⟩))] [(0, .pointer (some ⟨B, 0, none⟩)), (3, .pointer (some ⟨bn, 0, none⟩))] (fun w' => w'.cell? ⟨bn, 0, none⟩ = some (.int .i64 (n : Int))) [(21, ((X.drew).setCell ⟨B, 5, none⟩ (.slice (some ⟨G, of 5, none⟩) (n + 1) c)).setCell ⟨B, 6, none⟩ (.slice (some ⟨G, of 6, none⟩) (n + 1) c)), (18, (X.drew).setCell ⟨B, 5, none⟩ (.slice (some ⟨G, of 5, none⟩) (n + 1) c))] 22 124 rfl hz1 (by kernel_rfl) (by kernel_rfl) (by kernel_rfl) (by kernel_rfl) (by kernel_rfl) (by kernel_rfl) ?henv6 ?hN6 ?hM6 ?hop6 ?hQ6
    case henv6 => exact ha0
    case hN6 => go_simp
    case hM6 =>
      intro p hp
      simp only [List.mem_cons, List.mem_nil_iff, or_false] at hp
      rcases hp with rfl | rfl
      all_goals go_simp
    case hop6 =>
      intro ρ he he2 hc
      have hwr : IntKind.i64.wrap ((n : Int) + 1) = (n : Int) + 1 := by rw [IntKind.wrap_i64]; omega
      obtain ⟨e0, e3, _⟩ := he
      obtain ⟨e104, e105, e106, e107, e108, e109, e110, e111, e112, e113, e114, e115, e116, e117, e118, e119, e120, e121, e122, e123, _⟩ := he2
      refine ⟨⟨⟨⟨⟨⟨⟨⟨⟨⟨⟨⟨⟨⟨⟨⟨⟨⟨⟨⟨⟨⟨trivial, ?_⟩, ?_⟩, ?_⟩, ?_⟩, ?_⟩, ?_⟩, ?_⟩, ?_⟩, ?_⟩, ?_⟩, ?_⟩, ?_⟩, ?_⟩, ?_⟩, ?_⟩, ?_⟩, ?_⟩, ?_⟩, ?_⟩, ?_⟩, ?_⟩, ?_⟩
      · refine ⟨_, rfl, .inl ⟨_, rfl, rfl, fun w' hw' => ?_⟩⟩
        go_simp
      · refine ⟨_, rfl, .inl ⟨_, rfl, rfl, fun w' hw' => ?_⟩⟩
        go_simp
      · refine ⟨_, rfl, .inl ⟨_, rfl, rfl, fun w' hw' => ?_⟩⟩
        go_simp
      · refine ⟨_, rfl, .inl ⟨_, rfl, rfl, fun w' hw' => ?_⟩⟩
        go_simp
      · refine ⟨_, rfl, .inl ⟨_, rfl, rfl, fun w' hw' => ?_⟩⟩
        go_simp
      · refine ⟨_, rfl, .inr (.inl ⟨_, rfl, by kernel_rfl, ?_⟩)⟩
        go_simp
      · refine ⟨_, rfl, .inl ⟨_, rfl, rfl, fun w' hw' => ?_⟩⟩
        go_simp
      · refine ⟨_, rfl, .inl ⟨_, rfl, rfl, fun w' hw' => ?_⟩⟩
        go_simp
      · refine ⟨_, rfl, .inl ⟨_, rfl, rfl, fun w' hw' => ?_⟩⟩
        go_simp; intro hx; omega
      · refine ⟨_, rfl, .inl ⟨_, rfl, rfl, fun w' hw' => ?_⟩⟩
        go_simp
      · refine ⟨_, rfl, .inl ⟨_, rfl, rfl, fun w' hw' => ?_⟩⟩
        go_simp
      · refine ⟨_, rfl, .inl ⟨_, rfl, rfl, fun w' hw' => ?_⟩⟩
        go_simp
      · refine ⟨_, rfl, .inr (.inl ⟨_, rfl, by kernel_rfl, ?_⟩)⟩
        go_simp
      · refine ⟨_, rfl, .inl ⟨_, rfl, rfl, fun w' hw' => ?_⟩⟩
        go_simp
      · refine ⟨_, rfl, .inl ⟨_, rfl, rfl, fun w' hw' => ?_⟩⟩
        go_simp
      · refine ⟨_, rfl, .inl ⟨_, rfl, rfl, fun w' hw' => ?_⟩⟩
        go_simp; intro hx; omega
      · refine ⟨_, rfl, .inl ⟨_, rfl, rfl, fun w' hw' => ?_⟩⟩
        go_simp
      · refine ⟨_, rfl, .inl ⟨_, rfl, rfl, fun w' hw' => ?_⟩⟩
        go_simp
      · refine ⟨_, rfl, .inr (.inr ⟨[(21, ((X.drew).setCell ⟨B, 5, none⟩ (.slice (some ⟨G, of 5, none⟩) (n + 1) c)).setCell ⟨B, 6, none⟩ (.slice (some ⟨G, of 6, none⟩) (n + 1) c))], [], (X.drew).setCell ⟨B, 5, none⟩ (.slice (some ⟨G, of 5, none⟩) (n + 1) c), rfl, rfl, by kernel_rfl, by kernel_rfl, by kernel_rfl, ?_⟩)⟩
        simp only [headWorld]
        go_simp
      · refine ⟨_, rfl, .inl ⟨_, rfl, rfl, fun w' hw' => ?_⟩⟩
        go_simp
      · refine ⟨_, rfl, .inl ⟨_, rfl, rfl, fun w' hw' => ?_⟩⟩
        go_simp
      · refine ⟨_, rfl, .inr (.inr ⟨[], [(18, (X.drew).setCell ⟨B, 5, none⟩ (.slice (some ⟨G, of 5, none⟩) (n + 1) c))], ((X.drew).setCell ⟨B, 5, none⟩ (.slice (some ⟨G, of 5, none⟩) (n + 1) c)).setCell ⟨B, 6, none⟩ (.slice (some ⟨G, of 6, none⟩) (n + 1) c), rfl, rfl, by kernel_rfl, by kernel_rfl, by kernel_rfl, ?_⟩)⟩
        simp only [headWorld]
        go_simp
    case hQ6 =>
      simp only [headWorld]
      have hY := chain2 HX.out.1
      exact bodyPost_end (results_none rfl _ _ _) ((putAll_defers _ _).trans hd1) ⟨rfl, hY.1, hY.2⟩

end Go.Proofs.Qxb6608872a
