import Derived.Test.Qxb6608872aNewBase
namespace Go.Proofs.Qxb6608872a
open Go.RowKit Go.Deep

set_option maxHeartbeats 8000000 in
set_option maxRecDepth 100000 in
theorem size_new (B n : Nat) (of : Nat → Nat) (w : World) (a0 : Option Addr) (l0 c0 : Nat) (v1 v2 v3 v4 v5 v6 : Value) (hof : ∀ j, j < 7 → of j = j * (n + 1)) (hn : n ≤ 65536) (hc : c0 < n + 1) (hB : B < w.heap.size)
    (h0 : w.cell? ⟨B, 0, none⟩ = some (.slice a0 l0 c0)) (h1 : w.cell? ⟨B, 1, none⟩ = some v1) (h2 : w.cell? ⟨B, 2, none⟩ = some v2) (h3 : w.cell? ⟨B, 3, none⟩ = some v3) (h4 : w.cell? ⟨B, 4, none⟩ = some v4) (h5 : w.cell? ⟨B, 5, none⟩ = some v5) (h6 : w.cell? ⟨B, 6, none⟩ = some v6)
    (f0 : w.frozen? ⟨B, 0, none⟩ = false) (f1 : w.frozen? ⟨B, 1, none⟩ = false) (f2 : w.frozen? ⟨B, 2, none⟩ = false) (f3 : w.frozen? ⟨B, 3, none⟩ = false) (f4 : w.frozen? ⟨B, 4, none⟩ = false) (f5 : w.frozen? ⟨B, 5, none⟩ = false) (f6 : w.frozen? ⟨B, 6, none⟩ = false) :
    Calls Try.prog 8 #[.pointer (some ⟨B, 0, none⟩), .int .i64 n] w (NewPost B n of w) := by
  have hlt : (c0 : Int) < (n : Int) + 1 := by omega
  obtain ⟨l, hl⟩ : ∃ l, Hid (7 * (n + 1) = l) := ⟨_, rfl⟩
  obtain ⟨l1, hl1⟩ : ∃ l1, Hid (l = l1 + (n + 1)) := ⟨6 * (n + 1), by have := hl.out; show _ = _; omega⟩
  obtain ⟨l2, hl2⟩ : ∃ l2, Hid (l1 = l2 + (n + 1)) := ⟨5 * (n + 1), by have := hl.out; have := hl1.out; show _ = _; omega⟩
  obtain ⟨l3, hl3⟩ : ∃ l3, Hid (l2 = l3 + (n + 1)) := ⟨4 * (n + 1), by have := hl.out; have := hl1.out; have := hl2.out; show _ = _; omega⟩
  obtain ⟨l4, hl4⟩ : ∃ l4, Hid (l3 = l4 + (n + 1)) := ⟨3 * (n + 1), by have := hl.out; have := hl1.out; have := hl2.out; have := hl3.out; show _ = _; omega⟩
  obtain ⟨l5, hl5⟩ : ∃ l5, Hid (l4 = l5 + (n + 1)) := ⟨2 * (n + 1), by have := hl.out; have := hl1.out; have := hl2.out; have := hl3.out; have := hl4.out; show _ = _; omega⟩
  have hl6 : Hid (l5 = (n + 1) + (n + 1)) := by have := hl.out; have := hl1.out; have := hl2.out; have := hl3.out; have := hl4.out; have := hl5.out; show _ = _; omega
  have p1 : 0 < l1 := by have := hl1.out; have := hl2.out; omega
  have p2 : 0 < l2 := by have := hl3.out; omega
  have p3 : 0 < l3 := by have := hl4.out; omega
  have p4 : 0 < l4 := by have := hl5.out; omega
  have p5 : 0 < l5 := by have := hl6.out; omega
  have p6 : 0 < n + 1 := by omega
  have ho1 : Hid (of 1 = 0 + (n + 1)) := by have := hof 1 (by omega); show _ = _; omega
  have ho2 : Hid (of 2 = of 1 + (n + 1)) := by have := hof 1 (by omega); have := hof 2 (by omega); show _ = _; omega
  have ho3 : Hid (of 3 = of 2 + (n + 1)) := by have := hof 2 (by omega); have := hof 3 (by omega); show _ = _; omega
  have ho4 : Hid (of 4 = of 3 + (n + 1)) := by have := hof 3 (by omega); have := hof 4 (by omega); show _ = _; omega
  have ho5 : Hid (of 5 = of 4 + (n + 1)) := by have := hof 4 (by omega); have := hof 5 (by omega); show _ = _; omega
  have ho6 : Hid (of 6 = of 5 + (n + 1)) := by have := hof 5 (by omega); have := hof 6 (by omega); show _ = _; omega
  have ho0 : Hid (of 0 = 0) := by have := hof 0 (by omega); show _ = _; omega
  clear hof
  have hmk : ∀ w : World, (Instr.makeSlice 25 (.int .i64 (7 * ((n : Int) + 1))) (.int .i64 (7 * ((n : Int) + 1)))).run Try.prog w = .ok (.slice (some ⟨w.heap.size, 0, none⟩) l l) (w.alloc (.cells (madeCells #[.int .u64 0] l) 29)) := by
    intro w
    have e1 := hl.out
    have := run_make_row' (P := Try.prog) 25 29 (.int .u64 0) 8 Try.underlying25 info29 rfl .i64 .i64 (7 * (n + 1)) (by omega) (by omega) w
    have e : ((7 * (n + 1) : Nat) : Int) = 7 * ((n : Int) + 1) := by omega
    rw [e, e1] at this
    exact this
  go_enter Try.func8, Try.ntmps8
  go_wp2
  go_quiet (fail)
  go_wp2_with fail
  refine (next_mid _ _ (w.heap.size + 1) _ _ _ _ _ _ ?_ ?_ ?_ hl1 p1 ho1 hn).mono ?_
  · go_simp
  · go_simp
  · go_simp
  rintro e w' ⟨rfl, rfl⟩
  go_wp2_with fail
  refine (next_mid _ _ (w.heap.size + 1) _ _ _ _ _ _ ?_ ?_ ?_ hl2 p2 ho2 hn).mono ?_
  · go_simp
  · go_simp
  · go_simp
  rintro e w' ⟨rfl, rfl⟩
  go_wp2_with fail
  refine (next_mid _ _ (w.heap.size + 1) _ _ _ _ _ _ ?_ ?_ ?_ hl3 p3 ho3 hn).mono ?_
  · go_simp
  · go_simp
  · go_simp
  rintro e w' ⟨rfl, rfl⟩
  go_wp2_with fail
  refine (next_mid _ _ (w.heap.size + 1) _ _ _ _ _ _ ?_ ?_ ?_ hl4 p4 ho4 hn).mono ?_
  · go_simp
  · go_simp
  · go_simp
  rintro e w' ⟨rfl, rfl⟩
  go_wp2_with fail
  refine (next_mid _ _ (w.heap.size + 1) _ _ _ _ _ _ ?_ ?_ ?_ hl5 p5 ho5 hn).mono ?_
  · go_simp
  · go_simp
  · go_simp
  rintro e w' ⟨rfl, rfl⟩
  go_wp2_with fail
  refine (next_mid _ _ (w.heap.size + 1) _ _ _ _ _ _ ?_ ?_ ?_ hl6 p6 ho6 hn).mono ?_
  · go_simp
  · go_simp
  · go_simp
  rintro e w' ⟨rfl, rfl⟩
  go_wp2_with fail
  refine (next_last _ _ (w.heap.size + 1) (of 6) _ _ ?_ ?_ ?_ hn).mono ?_
  · go_simp
  · go_simp
  · go_simp
  rintro e V ⟨rfl, hV⟩
  obtain ⟨m1, m2, m3, m4, m5, m6⟩ := made_facts hV
  clear hV hmk
  rw [← m1 B 0 hB] at h0
  rw [← m1 B 1 hB] at h1
  rw [← m1 B 2 hB] at h2
  rw [← m1 B 3 hB] at h3
  rw [← m1 B 4 hB] at h4
  rw [← m1 B 5 hB] at h5
  rw [← m1 B 6 hB] at h6
  rw [← m2 B 0 hB] at f0
  rw [← m2 B 1 hB] at f1
  rw [← m2 B 2 hB] at f2
  rw [← m2 B 3 hB] at f3
  rw [← m2 B 4 hB] at f4
  rw [← m2 B 5 hB] at f5
  rw [← m2 B 6 hB] at f6
  clear m1 m2
  rw [← hl.out] at m4
  obtain ⟨G, hGd⟩ : ∃ G, Hid (w.heap.size + 1 = G) := ⟨_, rfl⟩
  obtain ⟨bn, hbn⟩ : ∃ bn, Hid (w.heap.size = bn) := ⟨_, rfl⟩
  have hne : B < bn := by have := hbn.out; omega
  have hGB : G ≠ B := by have := hGd.out; omega
  have hGV : G < V.heap.size := by have := hGd.out; omega
  have hz7 := chain7 (w := w) (bn := bn) (of := of) ho0.out h0 h1 h2 h3 h4 h5 h6 f0 f1 f2 f3 f4 f5 f6 (by rw [← hbn.out]; exact m3) (by omega) hGB (by rw [← hGd.out]; exact m4) (grown_of_below m5) hGV
  rw [hGd.out]
  clear m3 m4 m5 m6
  have H7 : Hid _ := hz7
  clear hz7
  go_wp2_with fail
  have hz7 := H7.out
  clear H7 h0 h1 h2 h3 h4 h5 h6 f0 f1 f2 f3 f4 f5 f6
  revert hz7
  generalize ((((((((V).setCell ⟨B, 0, none⟩ (.slice (some ⟨G, 0, none⟩) (n + 1) (n + 1))).setCell ⟨B, 1, none⟩ (.slice (some ⟨G, of 1, none⟩) (n + 1) (n + 1))).setCell ⟨B, 2, none⟩ (.slice (some ⟨G, of 2, none⟩) (n + 1) (n + 1))).setCell ⟨B, 3, none⟩ (.slice (some ⟨G, of 3, none⟩) (n + 1) (n + 1))).setCell ⟨B, 4, none⟩ (.slice (some ⟨G, of 4, none⟩) (n + 1) (n + 1))).setCell ⟨B, 5, none⟩ (.slice (some ⟨G, of 5, none⟩) (n + 1) (n + 1))).setCell ⟨B, 6, none⟩ (.slice (some ⟨G, of 6, none⟩) (n + 1) (n + 1))) = V7
  intro hz7
  obtain ⟨hs7, hVn, hVG, hVg, hVs⟩ := hz7
  have HG0 : Hid (∀ i, i < 7 * (n + 1) → V7.cell? ⟨G, i, none⟩ = some (.int .u64 0) ∧ V7.frozen? ⟨G, i, none⟩ = false) := hVG
  have HGs0 : Hid (G < V7.heap.size) := hVs
  clear hVG hVs
  obtain ⟨h0, h1, h2, h3, h4, h5, h6, f0, f1, f2, f3, f4, f5, f6⟩ := hs7
  rw [hbn.out]
  refine wp_region_plan2 (by kernel_rfl) [(54, .pointer (some ⟨B, 0, none⟩)), (55, .pointer (some ⟨B, 0, none⟩)), (56, .pointer (some ⟨B, 0, none⟩)), (57, .pointer (some ⟨B, 0, none⟩)), (58, .pointer (some ⟨B, 0, none⟩)), (59, .pointer (some ⟨B, 0, none⟩)), (60, .pointer (some ⟨B, 0, none⟩)), (61, .pointer (some ⟨B, 0, none⟩)), (62, .slice (some ⟨G, of 0, none⟩) (n + 1) (n + 1)), (63, .int .i64 (n : Int)), (64, .int .i64 ((n : Int) + 1)), (65, .slice (some ⟨G, of 0, none⟩) (n + 1) (n + 1)), (66, .pointer (some ⟨B, 0, none⟩)), (67, .pointer (some ⟨B, 0, none⟩)), (68, .pointer (some ⟨B, 1, none⟩)), (69, .slice (some ⟨G, of 1, none⟩) (n + 1) (n + 1)), (70, .int .i64 (n : Int)), (71, .int .i64 ((n : Int) + 1)), (72, .slice (some ⟨G, of 1, none⟩) (n + 1) (n + 1)), (73, .pointer (some ⟨B, 0, none⟩)), (74, .pointer (some ⟨B, 0, none⟩)), (75, .pointer (some ⟨B, 2, none⟩)), (76, .slice (some ⟨G, of 2, none⟩) (n + 1) (n + 1)), (77, .int .i64 (n : Int)), (78, .int .i64 ((n : Int) + 1)), (79, .slice (some ⟨G, of 2, none⟩) (n + 1) (n + 1)), (80, .pointer (some ⟨B, 0, none⟩)), (81, .pointer (some ⟨B, 0, none⟩)), (82, .pointer (some ⟨B, 3, none⟩)), (83, .slice (some ⟨G, of 3, none⟩) (n + 1) (n + 1)), (84, .int .i64 (n : Int)), (85, .int .i64 ((n : Int) + 1)), (86, .slice (some ⟨G, of 3, none⟩) (n + 1) (n + 1)), (87, .pointer (some ⟨B, 0, none⟩)), (88, .pointer (some ⟨B, 0, none⟩)), (89, .pointer (some ⟨B, 4, none⟩)), (90, .slice (some ⟨G, of 4, none⟩) (n + 1) (n + 1)), (91, .int .i64 (n : Int)), (92, .int .i64 ((n : Int) + 1)), (93, .slice (some ⟨G, of 4, none⟩) (n + 1) (n + 1)), (94, .pointer (some ⟨B, 0, none⟩)), (95, .pointer (some ⟨B, 0, none⟩)), (96, .pointer (some ⟨B, 0, none⟩)), (97, .pointer (some ⟨B, 1, none⟩)), (98, .pointer (some ⟨B, 0, none⟩)), (99, .pointer (some ⟨B, 2, none⟩)), (100, .pointer (some ⟨B, 0, none⟩)), (101, .pointer (some ⟨B, 3, none⟩)), (102, .pointer (some ⟨B, 0, none⟩)), (103, .pointer (some ⟨B, 4, none⟩))] [(0, .pointer (some ⟨B, 0, none⟩)), (3, .pointer (some ⟨bn, 0, none⟩))] (fun w' => w'.cell? ⟨bn, 0, none⟩ = some (.int .i64 (n : Int))) [(54, (((((V7.drew).setCell ⟨B, 0, none⟩ (.slice (some ⟨G, of 0, none⟩) (n + 1) (n + 1))).setCell ⟨B, 1, none⟩ (.slice (some ⟨G, of 1, none⟩) (n + 1) (n + 1))).setCell ⟨B, 2, none⟩ (.slice (some ⟨G, of 2, none⟩) (n + 1) (n + 1))).setCell ⟨B, 3, none⟩ (.slice (some ⟨G, of 3, none⟩) (n + 1) (n + 1))).setCell ⟨B, 4, none⟩ (.slice (some ⟨G, of 4, none⟩) (n + 1) (n + 1))), (51, ((((V7.drew).setCell ⟨B, 0, none⟩ (.slice (some ⟨G, of 0, none⟩) (n + 1) (n + 1))).setCell ⟨B, 1, none⟩ (.slice (some ⟨G, of 1, none⟩) (n + 1) (n + 1))).setCell ⟨B, 2, none⟩ (.slice (some ⟨G, of 2, none⟩) (n + 1) (n + 1))).setCell ⟨B, 3, none⟩ (.slice (some ⟨G, of 3, none⟩) (n + 1) (n + 1))), (48, (((V7.drew).setCell ⟨B, 0, none⟩ (.slice (some ⟨G, of 0, none⟩) (n + 1) (n + 1))).setCell ⟨B, 1, none⟩ (.slice (some ⟨G, of 1, none⟩) (n + 1) (n + 1))).setCell ⟨B, 2, none⟩ (.slice (some ⟨G, of 2, none⟩) (n + 1) (n + 1))), (45, ((V7.drew).setCell ⟨B, 0, none⟩ (.slice (some ⟨G, of 0, none⟩) (n + 1) (n + 1))).setCell ⟨B, 1, none⟩ (.slice (some ⟨G, of 1, none⟩) (n + 1) (n + 1))), (42, (V7.drew).setCell ⟨B, 0, none⟩ (.slice (some ⟨G, of 0, none⟩) (n + 1) (n + 1)))] 55 124 rfl rfl (by kernel_rfl) (by kernel_rfl) (by kernel_rfl) (by kernel_rfl) (by kernel_rfl) (by kernel_rfl) ?henv5 ?hN5 ?hM5 ?hop5 ?hQ5
  case henv5 => exact ⟨rfl, rfl, trivial⟩
  case hN5 => go_simp
  case hM5 =>
    intro p hp
    simp only [List.mem_cons, List.mem_nil_iff, or_false] at hp
    rcases hp with rfl | rfl | rfl | rfl | rfl
    all_goals go_simp
  case hop5 =>
    intro ρ he he2 hc
    have hwr : IntKind.i64.wrap ((n : Int) + 1) = (n : Int) + 1 := by rw [IntKind.wrap_i64]; omega
    obtain ⟨e0, e3, _⟩ := he
    obtain ⟨e54, e55, e56, e57, e58, e59, e60, e61, e62, e63, e64, e65, e66, e67, e68, e69, e70, e71, e72, e73, e74, e75, e76, e77, e78, e79, e80, e81, e82, e83, e84, e85, e86, e87, e88, e89, e90, e91, e92, e93, e94, e95, e96, e97, e98, e99, e100, e101, e102, e103, _⟩ := he2
    refine ⟨⟨⟨⟨⟨⟨⟨⟨⟨⟨⟨⟨⟨⟨⟨⟨⟨⟨⟨⟨⟨⟨⟨⟨⟨⟨⟨⟨⟨⟨⟨⟨⟨⟨⟨⟨⟨⟨⟨⟨⟨⟨⟨⟨⟨⟨⟨⟨⟨⟨⟨⟨⟨⟨⟨trivial, ?_⟩, ?_⟩, ?_⟩, ?_⟩, ?_⟩, ?_⟩, ?_⟩, ?_⟩, ?_⟩, ?_⟩, ?_⟩, ?_⟩, ?_⟩, ?_⟩, ?_⟩, ?_⟩, ?_⟩, ?_⟩, ?_⟩, ?_⟩, ?_⟩, ?_⟩, ?_⟩, ?_⟩, ?_⟩, ?_⟩, ?_⟩, ?_⟩, ?_⟩, ?_⟩, ?_⟩, ?_⟩, ?_⟩, ?_⟩, ?_⟩, ?_⟩, ?_⟩, ?_⟩, ?_⟩, ?_⟩, ?_⟩, ?_⟩, ?_⟩, ?_⟩, ?_⟩, ?_⟩, ?_⟩, ?_⟩, ?_⟩, ?_⟩, ?_⟩, ?_⟩, ?_⟩, ?_⟩, ?_⟩
    · refine ⟨_, rfl, .inl ⟨_, rfl, rfl, fun w' hw' => ?_⟩⟩
      go_simp
    · refine ⟨_, rfl, .inl ⟨_, rfl, rfl, fun w' hw' => ?_⟩⟩
      go_simp
    · refine ⟨_, rfl, .inl ⟨_, rfl, rfl, fun w' hw' => ?_⟩⟩
      go_simp
    · refine ⟨_, rfl, .inl ⟨_, rfl, rfl, fun w' hw' => ?_⟩⟩
      go_simp
    · refine ⟨_, rfl, .inl ⟨_, rfl, rfl, fun w' hw' => ?_⟩⟩
      go_simp
    · refine ⟨_, rfl, .inl ⟨_, rfl, rfl, fun w' hw' => ?_⟩⟩
      go_simp
    · refine ⟨_, rfl, .inl ⟨_, rfl, rfl, fun w' hw' => ?_⟩⟩
      go_simp
    · refine ⟨_, rfl, .inl ⟨_, rfl, rfl, fun w' hw' => ?_⟩⟩
      go_simp
    · refine ⟨_, rfl, .inr (.inl ⟨_, rfl, by kernel_rfl, ?_⟩)⟩
      go_simp
    · refine ⟨_, rfl, .inl ⟨_, rfl, rfl, fun w' hw' => ?_⟩⟩
      go_simp
    · refine ⟨_, rfl, .inl ⟨_, rfl, rfl, fun w' hw' => ?_⟩⟩
      go_simp
    · refine ⟨_, rfl, .inl ⟨_, rfl, rfl, fun w' hw' => ?_⟩⟩
      go_simp; intro hx; omega
    · refine ⟨_, rfl, .inl ⟨_, rfl, rfl, fun w' hw' => ?_⟩⟩
      go_simp
    · refine ⟨_, rfl, .inl ⟨_, rfl, rfl, fun w' hw' => ?_⟩⟩
      go_simp
    · refine ⟨_, rfl, .inl ⟨_, rfl, rfl, fun w' hw' => ?_⟩⟩
      go_simp
    · refine ⟨_, rfl, .inr (.inl ⟨_, rfl, by kernel_rfl, ?_⟩)⟩
      go_simp
    · refine ⟨_, rfl, .inl ⟨_, rfl, rfl, fun w' hw' => ?_⟩⟩
      go_simp
    · refine ⟨_, rfl, .inl ⟨_, rfl, rfl, fun w' hw' => ?_⟩⟩
      go_simp
    · refine ⟨_, rfl, .inl ⟨_, rfl, rfl, fun w' hw' => ?_⟩⟩
      go_simp; intro hx; omega
    · refine ⟨_, rfl, .inl ⟨_, rfl, rfl, fun w' hw' => ?_⟩⟩
      go_simp
    · refine ⟨_, rfl, .inl ⟨_, rfl, rfl, fun w' hw' => ?_⟩⟩
      go_simp
    · refine ⟨_, rfl, .inl ⟨_, rfl, rfl, fun w' hw' => ?_⟩⟩
      go_simp
    · refine ⟨_, rfl, .inr (.inl ⟨_, rfl, by kernel_rfl, ?_⟩)⟩
      go_simp
    · refine ⟨_, rfl, .inl ⟨_, rfl, rfl, fun w' hw' => ?_⟩⟩
      go_simp
    · refine ⟨_, rfl, .inl ⟨_, rfl, rfl, fun w' hw' => ?_⟩⟩
      go_simp
    · refine ⟨_, rfl, .inl ⟨_, rfl, rfl, fun w' hw' => ?_⟩⟩
      go_simp; intro hx; omega
    · refine ⟨_, rfl, .inl ⟨_, rfl, rfl, fun w' hw' => ?_⟩⟩
      go_simp
    · refine ⟨_, rfl, .inl ⟨_, rfl, rfl, fun w' hw' => ?_⟩⟩
      go_simp
    · refine ⟨_, rfl, .inl ⟨_, rfl, rfl, fun w' hw' => ?_⟩⟩
      go_simp
    · refine ⟨_, rfl, .inr (.inl ⟨_, rfl, by kernel_rfl, ?_⟩)⟩
      go_simp
    · refine ⟨_, rfl, .inl ⟨_, rfl, rfl, fun w' hw' => ?_⟩⟩
      go_simp
    · refine ⟨_, rfl, .inl ⟨_, rfl, rfl, fun w' hw' => ?_⟩⟩
      go_simp
    · refine ⟨_, rfl, .inl ⟨_, rfl, rfl, fun w' hw' => ?_⟩⟩
      go_simp; intro hx; omega
    · refine ⟨_, rfl, .inl ⟨_, rfl, rfl, fun w' hw' => ?_⟩⟩
      go_simp
    · refine ⟨_, rfl, .inl ⟨_, rfl, rfl, fun w' hw' => ?_⟩⟩
      go_simp
    · refine ⟨_, rfl, .inl ⟨_, rfl, rfl, fun w' hw' => ?_⟩⟩
      go_simp
    · refine ⟨_, rfl, .inr (.inl ⟨_, rfl, by kernel_rfl, ?_⟩)⟩
      go_simp
    · refine ⟨_, rfl, .inl ⟨_, rfl, rfl, fun w' hw' => ?_⟩⟩
      go_simp
    · refine ⟨_, rfl, .inl ⟨_, rfl, rfl, fun w' hw' => ?_⟩⟩
      go_simp
    · refine ⟨_, rfl, .inl ⟨_, rfl, rfl, fun w' hw' => ?_⟩⟩
      go_simp; intro hx; omega
    · refine ⟨_, rfl, .inl ⟨_, rfl, rfl, fun w' hw' => ?_⟩⟩
      go_simp
    · refine ⟨_, rfl, .inl ⟨_, rfl, rfl, fun w' hw' => ?_⟩⟩
      go_simp
    · refine ⟨_, rfl, .inr (.inr ⟨[(54, (((((V7.drew).setCell ⟨B, 0, none⟩ (.slice (some ⟨G, of 0, none⟩) (n + 1) (n + 1))).setCell ⟨B, 1, none⟩ (.slice (some ⟨G, of 1, none⟩) (n + 1) (n + 1))).setCell ⟨B, 2, none⟩ (.slice (some ⟨G, of 2, none⟩) (n + 1) (n + 1))).setCell ⟨B, 3, none⟩ (.slice (some ⟨G, of 3, none⟩) (n + 1) (n + 1))).setCell ⟨B, 4, none⟩ (.slice (some ⟨G, of 4, none⟩) (n + 1) (n + 1))), (51, ((((V7.drew).setCell ⟨B, 0, none⟩ (.slice (some ⟨G, of 0, none⟩) (n + 1) (n + 1))).setCell ⟨B, 1, none⟩ (.slice (some ⟨G, of 1, none⟩) (n + 1) (n + 1))).setCell ⟨B, 2, none⟩ (.slice (some ⟨G, of 2, none⟩) (n + 1) (n + 1))).setCell ⟨B, 3, none⟩ (.slice (some ⟨G, of 3, none⟩) (n + 1) (n + 1))), (48, (((V7.drew).setCell ⟨B, 0, none⟩ (.slice (some ⟨G, of 0, none⟩) (n + 1) (n + 1))).setCell ⟨B, 1, none⟩ (.slice (some ⟨G, of 1, none⟩) (n + 1) (n + 1))).setCell ⟨B, 2, none⟩ (.slice (some ⟨G, of 2, none⟩) (n + 1) (n + 1))), (45, ((V7.drew).setCell ⟨B, 0, none⟩ (.slice (some ⟨G, of 0, none⟩) (n + 1) (n + 1))).setCell ⟨B, 1, none⟩ (.slice (some ⟨G, of 1, none⟩) (n + 1) (n + 1)))], [], (V7.drew).setCell ⟨B, 0, none⟩ (.slice (some ⟨G, of 0, none⟩) (n + 1) (n + 1)), rfl, rfl, by kernel_rfl, by kernel_rfl, by kernel_rfl, ?_⟩)⟩
      simp only [headWorld]
      go_simp
    · refine ⟨_, rfl, .inl ⟨_, rfl, rfl, fun w' hw' => ?_⟩⟩
      go_simp
    · refine ⟨_, rfl, .inl ⟨_, rfl, rfl, fun w' hw' => ?_⟩⟩
      go_simp
    · refine ⟨_, rfl, .inr (.inr ⟨[(54, (((((V7.drew).setCell ⟨B, 0, none⟩ (.slice (some ⟨G, of 0, none⟩) (n + 1) (n + 1))).setCell ⟨B, 1, none⟩ (.slice (some ⟨G, of 1, none⟩) (n + 1) (n + 1))).setCell ⟨B, 2, none⟩ (.slice (some ⟨G, of 2, none⟩) (n + 1) (n + 1))).setCell ⟨B, 3, none⟩ (.slice (some ⟨G, of 3, none⟩) (n + 1) (n + 1))).setCell ⟨B, 4, none⟩ (.slice (some ⟨G, of 4, none⟩) (n + 1) (n + 1))), (51, ((((V7.drew).setCell ⟨B, 0, none⟩ (.slice (some ⟨G, of 0, none⟩) (n + 1) (n + 1))).setCell ⟨B, 1, none⟩ (.slice (some ⟨G, of 1, none⟩) (n + 1) (n + 1))).setCell ⟨B, 2, none⟩ (.slice (some ⟨G, of 2, none⟩) (n + 1) (n + 1))).setCell ⟨B, 3, none⟩ (.slice (some ⟨G, of 3, none⟩) (n + 1) (n + 1))), (48, (((V7.drew).setCell ⟨B, 0, none⟩ (.slice (some ⟨G, of 0, none⟩) (n + 1) (n + 1))).setCell ⟨B, 1, none⟩ (.slice (some ⟨G, of 1, none⟩) (n + 1) (n + 1))).setCell ⟨B, 2, none⟩ (.slice (some ⟨G, of 2, none⟩) (n + 1) (n + 1)))], [(42, (V7.drew).setCell ⟨B, 0, none⟩ (.slice (some ⟨G, of 0, none⟩) (n + 1) (n + 1)))], ((V7.drew).setCell ⟨B, 0, none⟩ (.slice (some ⟨G, of 0, none⟩) (n + 1) (n + 1))).setCell ⟨B, 1, none⟩ (.slice (some ⟨G, of 1, none⟩) (n + 1) (n + 1)), rfl, rfl, by kernel_rfl, by kernel_rfl, by kernel_rfl, ?_⟩)⟩
      simp only [headWorld]
      go_simp
    · refine ⟨_, rfl, .inl ⟨_, rfl, rfl, fun w' hw' => ?_⟩⟩
      go_simp
    · refine ⟨_, rfl, .inl ⟨_, rfl, rfl, fun w' hw' => ?_⟩⟩
      go_simp
    · refine ⟨_, rfl, .inr (.inr ⟨[(54, (((((V7.drew).setCell ⟨B, 0, none⟩ (.slice (some ⟨G, of 0, none⟩) (n + 1) (n + 1))).setCell ⟨B, 1, none⟩ (.slice (some ⟨G, of 1, none⟩) (n + 1) (n + 1))).setCell ⟨B, 2, none⟩ (.slice (some ⟨G, of 2, none⟩) (n + 1) (n + 1))).setCell ⟨B, 3, none⟩ (.slice (some ⟨G, of 3, none⟩) (n + 1) (n + 1))).setCell ⟨B, 4, none⟩ (.slice (some ⟨G, of 4, none⟩) (n + 1) (n + 1))), (51, ((((V7.drew).setCell ⟨B, 0, none⟩ (.slice (some ⟨G, of 0, none⟩) (n + 1) (n + 1))).setCell ⟨B, 1, none⟩ (.slice (some ⟨G, of 1, none⟩) (n + 1) (n + 1))).setCell ⟨B, 2, none⟩ (.slice (some ⟨G, of 2, none⟩) (n + 1) (n + 1))).setCell ⟨B, 3, none⟩ (.slice (some ⟨G, of 3, none⟩) (n + 1) (n + 1)))], [(45, ((V7.drew).setCell ⟨B, 0, none⟩ (.slice (some ⟨G, of 0, none⟩) (n + 1) (n + 1))).setCell ⟨B, 1, none⟩ (.slice (some ⟨G, of 1, none⟩) (n + 1) (n + 1))), (42, (V7.drew).setCell ⟨B, 0, none⟩ (.slice (some ⟨G, of 0, none⟩) (n + 1) (n + 1)))], (((V7.drew).setCell ⟨B, 0, none⟩ (.slice (some ⟨G, of 0, none⟩) (n + 1) (n + 1))).setCell ⟨B, 1, none⟩ (.slice (some ⟨G, of 1, none⟩) (n + 1) (n + 1))).setCell ⟨B, 2, none⟩ (.slice (some ⟨G, of 2, none⟩) (n + 1) (n + 1)), rfl, rfl, by kernel_rfl, by kernel_rfl, by kernel_rfl, ?_⟩)⟩
      simp only [headWorld]
      go_simp
    · refine ⟨_, rfl, .inl ⟨_, rfl, rfl, fun w' hw' => ?_⟩⟩
      go_simp
    · refine ⟨_, rfl, .inl ⟨_, rfl, rfl, fun w' hw' => ?_⟩⟩
      go_simp
    · refine ⟨_, rfl, .inr (.inr ⟨[(54, (((((V7.drew).setCell ⟨B, 0, none⟩ (.slice (some ⟨G, of 0, none⟩) (n + 1) (n + 1))).setCell ⟨B, 1, none⟩ (.slice (some ⟨G, of 1, none⟩) (n + 1) (n + 1))).setCell ⟨B, 2, none⟩ (.slice (some ⟨G, of 2, none⟩) (n + 1) (n + 1))).setCell ⟨B, 3, none⟩ (.slice (some ⟨G, of 3, none⟩) (n + 1) (n + 1))).setCell ⟨B, 4, none⟩ (.slice (some ⟨G, of 4, none⟩) (n + 1) (n + 1)))], [(48, (((V7.drew).setCell ⟨B, 0, none⟩ (.slice (some ⟨G, of 0, none⟩) (n + 1) (n + 1))).setCell ⟨B, 1, none⟩ (.slice (some ⟨G, of 1, none⟩) (n + 1) (n + 1))).setCell ⟨B, 2, none⟩ (.slice (some ⟨G, of 2, none⟩) (n + 1) (n + 1))), (45, ((V7.drew).setCell ⟨B, 0, none⟩ (.slice (some ⟨G, of 0, none⟩) (n + 1) (n + 1))).setCell ⟨B, 1, none⟩ (.slice (some ⟨G, of 1, none⟩) (n + 1) (n + 1))), (42, (V7.drew).setCell ⟨B, 0, none⟩ (.slice (some ⟨G, of 0, none⟩) (n + 1) (n + 1)))], ((((V7.drew).setCell ⟨B, 0, none⟩ (.slice (some ⟨G, of 0, none⟩) (n + 1) (n + 1))).setCell ⟨B, 1, none⟩ (.slice (some ⟨G, of 1, none⟩) (n + 1) (n + 1))).setCell ⟨B, 2, none⟩ (.slice (some ⟨G, of 2, none⟩) (n + 1) (n + 1))).setCell ⟨B, 3, none⟩ (.slice (some ⟨G, of 3, none⟩) (n + 1) (n + 1)), rfl, rfl, by kernel_rfl, by kernel_rfl, by kernel_rfl, ?_⟩)⟩
      simp only [headWorld]
      go_simp
    · refine ⟨_, rfl, .inl ⟨_, rfl, rfl, fun w' hw' => ?_⟩⟩
      go_simp
    · refine ⟨_, rfl, .inl ⟨_, rfl, rfl, fun w' hw' => ?_⟩⟩
      go_simp
    · refine ⟨_, rfl, .inr (.inr ⟨[], [(51, ((((V7.drew).setCell ⟨B, 0, none⟩ (.slice (some ⟨G, of 0, none⟩) (n + 1) (n + 1))).setCell ⟨B, 1, none⟩ (.slice (some ⟨G, of 1, none⟩) (n + 1) (n + 1))).setCell ⟨B, 2, none⟩ (.slice (some ⟨G, of 2, none⟩) (n + 1) (n + 1))).setCell ⟨B, 3, none⟩ (.slice (some ⟨G, of 3, none⟩) (n + 1) (n + 1))), (48, (((V7.drew).setCell ⟨B, 0, none⟩ (.slice (some ⟨G, of 0, none⟩) (n + 1) (n + 1))).setCell ⟨B, 1, none⟩ (.slice (some ⟨G, of 1, none⟩) (n + 1) (n + 1))).setCell ⟨B, 2, none⟩ (.slice (some ⟨G, of 2, none⟩) (n + 1) (n + 1))), (45, ((V7.drew).setCell ⟨B, 0, none⟩ (.slice (some ⟨G, of 0, none⟩) (n + 1) (n + 1))).setCell ⟨B, 1, none⟩ (.slice (some ⟨G, of 1, none⟩) (n + 1) (n + 1))), (42, (V7.drew).setCell ⟨B, 0, none⟩ (.slice (some ⟨G, of 0, none⟩) (n + 1) (n + 1)))], (((((V7.drew).setCell ⟨B, 0, none⟩ (.slice (some ⟨G, of 0, none⟩) (n + 1) (n + 1))).setCell ⟨B, 1, none⟩ (.slice (some ⟨G, of 1, none⟩) (n + 1) (n + 1))).setCell ⟨B, 2, none⟩ (.slice (some ⟨G, of 2, none⟩) (n + 1) (n + 1))).setCell ⟨B, 3, none⟩ (.slice (some ⟨G, of 3, none⟩) (n + 1) (n + 1))).setCell ⟨B, 4, none⟩ (.slice (some ⟨G, of 4, none⟩) (n + 1) (n + 1)), rfl, rfl, by kernel_rfl, by kernel_rfl, by kernel_rfl, ?_⟩)⟩
      simp only [headWorld]
      go_simp
  case hQ5 =>
    simp only [headWorld]
    rename_i hK
    refine hK _ _ ?_
    refine wp_env (ext := [(0, .pointer (some ⟨B, 0, none⟩)), (3, .pointer (some ⟨bn, 0, none⟩))]) rfl rfl ⟨rfl, rfl, trivial⟩ (by kernel_rfl) ?_
    intro a1 hz1 hd1 ha0
    clear hK
    have hX := chain5 (w := w) (n := n) (of := of) ⟨h0, h1, h2, h3, h4, h5, h6, f0, f1, f2, f3, f4, f5, f6⟩ hVn hne hVg
    clear h0 h1 h2 h3 h4 h5 h6 f0 f1 f2 f3 f4 f5 f6 hVn
    have hXG := chainG5 (n := n) (of := of) hGB HG0.out HGs0.out
    revert hXG
    revert hX
    generalize ((((((V7.drew).setCell ⟨B, 0, none⟩ (.slice (some ⟨G, of 0, none⟩) (n + 1) (n + 1))).setCell ⟨B, 1, none⟩ (.slice (some ⟨G, of 1, none⟩) (n + 1) (n + 1))).setCell ⟨B, 2, none⟩ (.slice (some ⟨G, of 2, none⟩) (n + 1) (n + 1))).setCell ⟨B, 3, none⟩ (.slice (some ⟨G, of 3, none⟩) (n + 1) (n + 1))).setCell ⟨B, 4, none⟩ (.slice (some ⟨G, of 4, none⟩) (n + 1) (n + 1))) = X
    intro hX
    intro hXG
    have HXG : Hid ((∀ i, i < 7 * (n + 1) → X.cell? ⟨G, i, none⟩ = some (.int .u64 0) ∧ X.frozen? ⟨G, i, none⟩ = false) ∧ G < X.heap.size) := hXG
    clear hXG
    have HX : Hid (Mid B G n (n + 1) (n + 1) of w X ∧ X.cell? ⟨bn, 0, none⟩ = some (.int .i64 (n : Int))) := hX
    have xc5 := hX.1.c5
    have xc6 := hX.1.c6
    have xf5 := hX.1.f5
    have xf6 := hX.1.f6
    have xn := hX.2
    clear hX
    refine wp_region_plan2 (by kernel_rfl) [(104, .pointer (some ⟨B, 0, none⟩)), (105, .pointer (some ⟨B, 0, none⟩)), (106, .pointer (some ⟨B, 0, none⟩)), (107, .pointer (some ⟨B, 0, none⟩)), (108, .pointer (some ⟨B, 5, none⟩)), (109, .slice (some ⟨G, of 5, none⟩) (n + 1) (n + 1)), (110, .int .i64 (n : Int)), (111, .int .i64 ((n : Int) + 1)), (112, .slice (some ⟨G, of 5, none⟩) (n + 1) (n + 1)), (113, .pointer (some ⟨B, 0, none⟩)), (114, .pointer (some ⟨B, 0, none⟩)), (115, .pointer (some ⟨B, 6, none⟩)), (116, .slice (some ⟨G, of 6, none⟩) (n + 1) (n + 1)), (117, .int .i64 (n : Int)), (118, .int .i64 ((n : Int) + 1)), (119, .slice (some ⟨G, of 6, none⟩) (n + 1) (n + 1)), (120, .pointer (some ⟨B, 0, none⟩)), (121, .pointer (some ⟨B, 5, none⟩)), (122, .pointer (some ⟨B, 0, none⟩)), (123, .pointer (some ⟨B, 6, none⟩))] [(0, .pointer (some ⟨B, 0, none⟩)), (3, .pointer (some ⟨bn, 0, none⟩))] (fun w' => w'.cell? ⟨bn, 0, none⟩ = some (.int .i64 (n : Int))) [(21, ((X.drew).setCell ⟨B, 5, none⟩ (.slice (some ⟨G, of 5, none⟩) (n + 1) (n + 1))).setCell ⟨B, 6, none⟩ (.slice (some ⟨G, of 6, none⟩) (n + 1) (n + 1))), (18, (X.drew).setCell ⟨B, 5, none⟩ (.slice (some ⟨G, of 5, none⟩) (n + 1) (n + 1)))] 22 124 rfl hz1 (by kernel_rfl) (by kernel_rfl) (by kernel_rfl) (by kernel_rfl) (by kernel_rfl) (by kernel_rfl) ?henv6 ?hN6 ?hM6 ?hop6 ?hQ6
    case henv6 => exact ha0
    case hN6 => go_simp
    case hM6 =>
      intro p hp
      simp only [List.mem_cons, List.mem_nil_iff, or_false] at hp
      rcases hp with rfl | rfl
      all_goals go_simp
    case hop6 =>
      intro ρ he he2 hc
      have hwr : IntKind.i64.wrap ((n : Int) + 1) = (n : Int) + 1 := by rw [IntKind.wrap_i64]; omega
      obtain ⟨e0, e3, _⟩ := he
      obtain ⟨e104, e105, e106, e107, e108, e109, e110, e111, e112, e113, e114, e115, e116, e117, e118, e119, e120, e121, e122, e123, _⟩ := he2
      refine ⟨⟨⟨⟨⟨⟨⟨⟨⟨⟨⟨⟨⟨⟨⟨⟨⟨⟨⟨⟨⟨⟨trivial, ?_⟩, ?_⟩, ?_⟩, ?_⟩, ?_⟩, ?_⟩, ?_⟩, ?_⟩, ?_⟩, ?_⟩, ?_⟩, ?_⟩, ?_⟩, ?_⟩, ?_⟩, ?_⟩, ?_⟩, ?_⟩, ?_⟩, ?_⟩, ?_⟩, ?_⟩
      · refine ⟨_, rfl, .inl ⟨_, rfl, rfl, fun w' hw' => ?_⟩⟩
        go_simp
      · refine ⟨_, rfl, .inl ⟨_, rfl, rfl, fun w' hw' => ?_⟩⟩
        go_simp
      · refine ⟨_, rfl, .inl ⟨_, rfl, rfl, fun w' hw' => ?_⟩⟩
        go_simp
      · refine ⟨_, rfl, .inl ⟨_, rfl, rfl, fun w' hw' => ?_⟩⟩
        go_simp
      · refine ⟨_, rfl, .inl ⟨_, rfl, rfl, fun w' hw' => ?_⟩⟩
        go_simp
      · refine ⟨_, rfl, .inr (.inl ⟨_, rfl, by kernel_rfl, ?_⟩)⟩
        go_simp
      · refine ⟨_, rfl, .inl ⟨_, rfl, rfl, fun w' hw' => ?_⟩⟩
        go_simp
      · refine ⟨_, rfl, .inl ⟨_, rfl, rfl, fun w' hw' => ?_⟩⟩
        go_simp
      · refine ⟨_, rfl, .inl ⟨_, rfl, rfl, fun w' hw' => ?_⟩⟩
        go_simp; intro hx; omega
      · refine ⟨_, rfl, .inl ⟨_, rfl, rfl, fun w' hw' => ?_⟩⟩
        go_simp
      · refine ⟨_, rfl, .inl ⟨_, rfl, rfl, fun w' hw' => ?_⟩⟩
        go_simp
      · refine ⟨_, rfl, .inl ⟨_, rfl, rfl, fun w' hw' => ?_⟩⟩
        go_simp
      · refine ⟨_, rfl, .inr (.inl ⟨_, rfl, by kernel_rfl, ?_⟩)⟩
        go_simp
      · refine ⟨_, rfl, .inl ⟨_, rfl, rfl, fun w' hw' => ?_⟩⟩
        go_simp
      · refine ⟨_, rfl, .inl ⟨_, rfl, rfl, fun w' hw' => ?_⟩⟩
        go_simp
      · refine ⟨_, rfl, .inl ⟨_, rfl, rfl, fun w' hw' => ?_⟩⟩
        go_simp; intro hx; omega
      · refine ⟨_, rfl, .inl ⟨_, rfl, rfl, fun w' hw' => ?_⟩⟩
        go_simp
      · refine ⟨_, rfl, .inl ⟨_, rfl, rfl, fun w' hw' => ?_⟩⟩
        go_simp
      · refine ⟨_, rfl, .inr (.inr ⟨[(21, ((X.drew).setCell ⟨B, 5, none⟩ (.slice (some ⟨G, of 5, none⟩) (n + 1) (n + 1))).setCell ⟨B, 6, none⟩ (.slice (some ⟨G, of 6, none⟩) (n + 1) (n + 1)))], [], (X.drew).setCell ⟨B, 5, none⟩ (.slice (some ⟨G, of 5, none⟩) (n + 1) (n + 1)), rfl, rfl, by kernel_rfl, by kernel_rfl, by kernel_rfl, ?_⟩)⟩
        simp only [headWorld]
        go_simp
      · refine ⟨_, rfl, .inl ⟨_, rfl, rfl, fun w' hw' => ?_⟩⟩
        go_simp
      · refine ⟨_, rfl, .inl ⟨_, rfl, rfl, fun w' hw' => ?_⟩⟩
        go_simp
      · refine ⟨_, rfl, .inr (.inr ⟨[], [(18, (X.drew).setCell ⟨B, 5, none⟩ (.slice (some ⟨G, of 5, none⟩) (n + 1) (n + 1)))], ((X.drew).setCell ⟨B, 5, none⟩ (.slice (some ⟨G, of 5, none⟩) (n + 1) (n + 1))).setCell ⟨B, 6, none⟩ (.slice (some ⟨G, of 6, none⟩) (n + 1) (n + 1)), rfl, rfl, by kernel_rfl, by kernel_rfl, by kernel_rfl, ?_⟩)⟩
        simp only [headWorld]
        go_simp
    case hQ6 =>
      simp only [headWorld]
      have hY := chain2 HX.out.1
      have hYG := chainG2 (of := of) hGB HXG.out
      exact bodyPost_end (results_none rfl _ _ _) ((putAll_defers _ _).trans hd1) ⟨rfl, G, by have := hGd.out; omega, hYG.2, hY.1, hYG.1, hY.2⟩

end Go.Proofs.Qxb6608872a
