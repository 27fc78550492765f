import Derived.Test.Qxb6614527aRows
import Derived.WalkKit
import Derived.ProofKit
import Derived.OpenShut
import Derived.WalkSpells
import Derived.WalkLawsBesides
import Derived.BigQuiet
import Derived.Deep.QuietTactic
namespace Go.Proofs.Qxb6614527a
open Go.RowKit

set_option maxHeartbeats 400000 in
theorem strong_any (a b : ByteArray) (w : World) :
    Calls Try.prog 9 #[.agg #[.string a, .bool false], .agg #[.string b, .bool false]] w fun e w' => e = .returned (.bool (a.toList == b.toList)) ∧ Below w.heap.size w w' := by
  go_enter Try.func9, Try.ntmps9
  go_wp2
  go_ret
  exact ⟨rfl, ((Below.refl _ _).alloc (Nat.le_refl _) _).alloc (by simp) _⟩

/-- A resource that exists, or not, with a strong tag and no time. -/
def res (ex : Bool) (op : ByteArray) : Value := .agg #[.bool ex, .string op, .bool false, .int .u64 0, .int .i64 0, .pointer none]

set_option maxHeartbeats 400000 in
theorem matches_any (T : Nat) (ex : Bool) (op : ByteArray) (w : World) (h0 : w.cell? ⟨T, 0, none⟩ = some (.bool true)) :
    Calls Try.prog 8 #[.pointer (some ⟨T, 0, none⟩), .agg #[.bool ex, .string op, .bool false, .int .u64 0, .int .i64 0, .pointer none], .func (.func 11) #[] #[]] w fun e w' => e = .returned (.bool ex) ∧ Below w.heap.size w w' := by
  have hT := World.block_lt_of_cell? _ _ h0
  simp only at hT
  cases ex
  · go_enter Try.func8, Try.ntmps8
    go_wp2
    go_ret
    exact ⟨rfl, (Below.refl _ _).alloc (Nat.le_refl _) _⟩
  · go_enter Try.func8, Try.ntmps8
    go_wp2
    go_ret
    exact ⟨rfl, (Below.refl _ _).alloc (Nat.le_refl _) _⟩

set_option maxHeartbeats 1000000 in
theorem matches_tag (T S : Nat) (ini op : ByteArray) (b : Bool) (hb : Hid ((ini.toList == op.toList) = b)) (w : World) (h0 : w.cell? ⟨T, 0, none⟩ = some (.bool false)) (h1 : w.cell? ⟨T, 1, none⟩ = some (.slice (some ⟨S, 0, none⟩) 1 1))
    (s0 : w.cell? ⟨S, 0, none⟩ = some (.string ini)) (s1 : w.cell? ⟨S, 1, none⟩ = some (.bool false)) :
    Calls Try.prog 8 #[.pointer (some ⟨T, 0, none⟩), .agg #[.bool true, .string op, .bool false, .int .u64 0, .int .i64 0, .pointer none], .func (.func 9) #[] #[]] w fun e w' => e = .returned (.bool b) ∧ Below w.heap.size w w' := by
  have hT := World.block_lt_of_cell? _ _ h0
  have hS := World.block_lt_of_cell? _ _ s0
  simp only at hT hS
  cases b
  all_goals
    go_enter Try.func8, Try.ntmps8
    go_wp2_with fail
    refine wp_loop_rounds 2 ?_
    rw [rounds_succ]
    go_wp2_with fail
    refine (strong_any _ _ _).mono ?_
    rintro e w1 ⟨rfl, hbel⟩
    rw [hb.out]
    have hB : Below w.heap.size w w1 := (((Below.refl _ _).alloc (Nat.le_refl _) _).alloc (by simp) _).trans (hbel.mono (by simp; omega))
    clear hbel
    go_wp2_with fail
  · rw [rounds_succ]
    go_wp2_with fail
    go_ret
    exact ⟨rfl, hB⟩
  · go_ret
    exact ⟨rfl, hB⟩

theorem below_drewN {B : Nat} {a w : World} (h : Below B a w) (n : Nat) : Below B a (w.drewN n) := h.trans ⟨rfl, rfl, rfl, Nat.le_refl _, fun _ _ => rfl⟩

/-- The three ways of decide: nothing stands in the way; the tag parts; the resource is there. -/
def dProceed : Value := .agg #[.int .i64 0, .string ⟨#[]⟩, .bool false]
def dMatch : Value := .agg #[.int .i64 2, .string ⟨#[73, 102, 45, 77, 97, 116, 99, 104]⟩, .bool false]
def dNone : Value := .agg #[.int .i64 2, .string ⟨#[73, 102, 45, 78, 111, 110, 101, 45, 77, 97, 116, 99, 104]⟩, .bool false]

theorem past3 (w : World) (a b c : Obj) {T j : Nat} (h : T < w.heap.size) : (((w.alloc a).alloc b).alloc c).cell? ⟨T, j, none⟩ = w.cell? ⟨T, j, none⟩ := by
  rw [World.cell?_alloc_past _ _ _ (by simp; omega), World.cell?_alloc_past _ _ _ (by simp; omega), World.cell?_alloc_past _ _ _ h]

set_option maxHeartbeats 1000000 in
theorem decide_tag (T S : Nat) (ini op : ByteArray) (b : Bool) (hb : Hid ((ini.toList == op.toList) = b)) (w : World) (h0 : w.cell? ⟨T, 0, none⟩ = some (.bool false)) (h1 : w.cell? ⟨T, 1, none⟩ = some (.slice (some ⟨S, 0, none⟩) 1 1))
    (s0 : w.cell? ⟨S, 0, none⟩ = some (.string ini)) (s1 : w.cell? ⟨S, 1, none⟩ = some (.bool false)) :
    Calls Try.prog 7 #[.agg #[.pointer (some ⟨T, 0, none⟩), .pointer none, .pointer none], .agg #[.bool true, .string op, .bool false, .int .u64 0, .int .i64 0, .pointer none], .bool false] w fun e w' => e = .returned (if b then dProceed else dMatch) ∧ Below w.heap.size w w' := by
  have hT := World.block_lt_of_cell? _ _ h0
  have hS := World.block_lt_of_cell? _ _ s0
  simp only at hT hS
  cases b
  all_goals
    go_enter Try.func7, Try.ntmps7
    go_wp2_with fail
    refine (matches_tag T S ini op _ hb _ ?_ ?_ ?_ ?_).mono ?_
    · exact (past3 _ _ _ _ hT).trans h0
    · exact (past3 _ _ _ _ hT).trans h1
    · exact (past3 _ _ _ _ hS).trans s0
    · exact (past3 _ _ _ _ hS).trans s1
    rintro e w1 ⟨rfl, hbel⟩
    have qa : w1.cell? ⟨w.heap.size, 1, none⟩ = some (.pointer none) := (hbel.cell (p := ⟨w.heap.size, 1, none⟩) (by simp; omega)).trans (by go_simp)
    have qb : w1.cell? ⟨w.heap.size, 2, none⟩ = some (.pointer none) := (hbel.cell (p := ⟨w.heap.size, 2, none⟩) (by simp; omega)).trans (by go_simp)
    have q0 : w1.cell? ⟨w.heap.size + 1 + 1, 0, none⟩ = some (.int .i64 0) := (hbel.cell (p := ⟨w.heap.size + 1 + 1, 0, none⟩) (by simp)).trans (by go_simp)
    have q1 : w1.cell? ⟨w.heap.size + 1 + 1, 1, none⟩ = some (.string ⟨#[]⟩) := (hbel.cell (p := ⟨w.heap.size + 1 + 1, 1, none⟩) (by simp)).trans (by go_simp)
    have q2 : w1.cell? ⟨w.heap.size + 1 + 1, 2, none⟩ = some (.bool false) := (hbel.cell (p := ⟨w.heap.size + 1 + 1, 2, none⟩) (by simp)).trans (by go_simp)
    have g0 : w1.frozen? ⟨w.heap.size + 1 + 1, 0, none⟩ = false := (hbel.frozen (p := ⟨w.heap.size + 1 + 1, 0, none⟩) (by simp)).trans (by go_simp)
    have g1 : w1.frozen? ⟨w.heap.size + 1 + 1, 1, none⟩ = false := (hbel.frozen (p := ⟨w.heap.size + 1 + 1, 1, none⟩) (by simp)).trans (by go_simp)
    have g2 : w1.frozen? ⟨w.heap.size + 1 + 1, 2, none⟩ = false := (hbel.frozen (p := ⟨w.heap.size + 1 + 1, 2, none⟩) (by simp)).trans (by go_simp)
    have hB : Below w.heap.size w w1 := ((((Below.refl _ _).alloc (Nat.le_refl _) _).alloc (by simp) _).alloc (by simp; omega) _).trans (hbel.mono (by simp; omega))
    clear hbel h0 h1 s0 s1
    go_wp2_with fail
  · exact bodyPost_ret (v := dMatch) (by simp [dMatch, results, Try.results7, go_sem, q0, q1, q2]) rfl ⟨rfl, ((hB.setCell (by simp; omega) _).setCell (by simp; omega) _).setCell (by simp; omega) _⟩
  · go_quiet (fail)
    go_wp2_with fail
    all_goals exact bodyPost_ret (v := dProceed) (by simp [dProceed, results, Try.results7, go_sem, q0, q1, q2]) rfl ⟨rfl, (((below_drewN hB _).setCell (by simp; omega) _).setCell (by simp; omega) _).setCell (by simp; omega) _⟩

set_option maxHeartbeats 1000000 in
theorem decide_none (T : Nat) (ex : Bool) (op : ByteArray) (w : World) (h0 : w.cell? ⟨T, 0, none⟩ = some (.bool true)) :
    Calls Try.prog 7 #[.agg #[.pointer none, .pointer (some ⟨T, 0, none⟩), .pointer none], .agg #[.bool ex, .string op, .bool false, .int .u64 0, .int .i64 0, .pointer none], .bool false] w fun e w' => e = .returned (if ex then dNone else dProceed) ∧ Below w.heap.size w w' := by
  have hT := World.block_lt_of_cell? _ _ h0
  simp only at hT
  cases ex
  all_goals
    go_enter Try.func7, Try.ntmps7
    go_wp2_with fail
    go_quiet (fail)
    go_wp2_with fail
    refine (matches_any T _ op _ ?_).mono ?_
    · exact (past3 _ _ _ _ hT).trans h0
    rintro e w1 ⟨rfl, hbel⟩
    have q0 : w1.cell? ⟨w.heap.size + 1 + 1, 0, none⟩ = some (.int .i64 0) := (hbel.cell (p := ⟨w.heap.size + 1 + 1, 0, none⟩) (by simp)).trans (by go_simp)
    have q1 : w1.cell? ⟨w.heap.size + 1 + 1, 1, none⟩ = some (.string ⟨#[]⟩) := (hbel.cell (p := ⟨w.heap.size + 1 + 1, 1, none⟩) (by simp)).trans (by go_simp)
    have q2 : w1.cell? ⟨w.heap.size + 1 + 1, 2, none⟩ = some (.bool false) := (hbel.cell (p := ⟨w.heap.size + 1 + 1, 2, none⟩) (by simp)).trans (by go_simp)
    have g0 : w1.frozen? ⟨w.heap.size + 1 + 1, 0, none⟩ = false := (hbel.frozen (p := ⟨w.heap.size + 1 + 1, 0, none⟩) (by simp)).trans (by go_simp)
    have g1 : w1.frozen? ⟨w.heap.size + 1 + 1, 1, none⟩ = false := (hbel.frozen (p := ⟨w.heap.size + 1 + 1, 1, none⟩) (by simp)).trans (by go_simp)
    have g2 : w1.frozen? ⟨w.heap.size + 1 + 1, 2, none⟩ = false := (hbel.frozen (p := ⟨w.heap.size + 1 + 1, 2, none⟩) (by simp)).trans (by go_simp)
    have hB : Below w.heap.size w w1 := (below_drewN ((((Below.refl _ _).alloc (Nat.le_refl _) _).alloc (by simp) _).alloc (by simp; omega) _) _).trans (hbel.mono (by simp; omega))
    clear hbel h0
    go_wp2_with fail
  · all_goals exact bodyPost_ret (v := dProceed) (by simp [dProceed, results, Try.results7, go_sem, q0, q1, q2]) rfl ⟨rfl, ((hB.setCell (by simp; omega) _).setCell (by simp; omega) _).setCell (by simp; omega) _⟩
  · all_goals exact bodyPost_ret (v := dNone) (by simp [dNone, results, Try.results7, go_sem, q0, q1, q2]) rfl ⟨rfl, ((hB.setCell (by simp; omega) _).setCell (by simp; omega) _).setCell (by simp; omega) _⟩

/-- What Check leaves where the condition fails: an error at a new block that bears the decision and the resource. -/
def Refused (d0 : Int) (d1 : ByteArray) (ex : Bool) (op : ByteArray) (w : World) (e : Ending) (w' : World) : Prop :=
  ∃ b, w.heap.size ≤ b ∧ e = .returned (.iface 47 (.pointer (some ⟨b, 0, none⟩))) ∧ b < w'.heap.size ∧ w'.cell? ⟨b, 0, none⟩ = some (.int .i64 d0) ∧ w'.cell? ⟨b, 1, none⟩ = some (.string d1) ∧ w'.cell? ⟨b, 2, none⟩ = some (.bool false) ∧
    w'.cell? ⟨b, 3, none⟩ = some (.bool ex) ∧ w'.cell? ⟨b, 4, none⟩ = some (.string op) ∧ w'.cell? ⟨b, 5, none⟩ = some (.bool false) ∧ w'.cell? ⟨b, 6, none⟩ = some (.int .u64 0) ∧ w'.cell? ⟨b, 7, none⟩ = some (.int .i64 0) ∧ w'.cell? ⟨b, 8, none⟩ = some (.pointer none) ∧ Below w.heap.size w w'

set_option maxHeartbeats 1000000 in
theorem check_bad (c0 c1 : Value) (_hc0 : c0.oneCell' = true) (_hc1 : c1.oneCell' = true) (d1 : ByteArray) (ex : Bool) (op : ByteArray) (w : World)
    (hd : Hid (∀ w', Below w.heap.size w w' → Calls Try.prog 7 #[.agg #[c0, c1, .pointer none], .agg #[.bool ex, .string op, .bool false, .int .u64 0, .int .i64 0, .pointer none], .bool false] w' fun e w'' => e = .returned (.agg #[.int .i64 2, .string d1, .bool false]) ∧ Below w'.heap.size w' w'')) :
    Calls Try.prog 6 #[.agg #[c0, c1, .pointer none], .agg #[.bool ex, .string op, .bool false, .int .u64 0, .int .i64 0, .pointer none]] w (Refused 2 d1 ex op w) := by
  go_enter Try.func6, Try.ntmps6
  go_wp2_with fail
  refine (hd.out _ (((Below.refl _ _).alloc (Nat.le_refl _) _).alloc (by simp) _)).mono ?_
  rintro e w1 ⟨rfl, hbel⟩
  have r0 : w1.cell? ⟨w.heap.size + 1, 0, none⟩ = some (.bool ex) := (hbel.cell (p := ⟨w.heap.size + 1, 0, none⟩) (by simp)).trans (by rw [World.cell?_alloc_at _ _ _ _ (by simp)]; rfl)
  have r1 : w1.cell? ⟨w.heap.size + 1, 1, none⟩ = some (.string op) := (hbel.cell (p := ⟨w.heap.size + 1, 1, none⟩) (by simp)).trans (by rw [World.cell?_alloc_at _ _ _ _ (by simp)]; rfl)
  have r2 : w1.cell? ⟨w.heap.size + 1, 2, none⟩ = some (.bool false) := (hbel.cell (p := ⟨w.heap.size + 1, 2, none⟩) (by simp)).trans (by rw [World.cell?_alloc_at _ _ _ _ (by simp)]; rfl)
  have r3 : w1.cell? ⟨w.heap.size + 1, 3, none⟩ = some (.int .u64 0) := (hbel.cell (p := ⟨w.heap.size + 1, 3, none⟩) (by simp)).trans (by rw [World.cell?_alloc_at _ _ _ _ (by simp)]; rfl)
  have r4 : w1.cell? ⟨w.heap.size + 1, 4, none⟩ = some (.int .i64 0) := (hbel.cell (p := ⟨w.heap.size + 1, 4, none⟩) (by simp)).trans (by rw [World.cell?_alloc_at _ _ _ _ (by simp)]; rfl)
  have r5 : w1.cell? ⟨w.heap.size + 1, 5, none⟩ = some (.pointer none) := (hbel.cell (p := ⟨w.heap.size + 1, 5, none⟩) (by simp)).trans (by rw [World.cell?_alloc_at _ _ _ _ (by simp)]; rfl)
  have hB : Below w.heap.size w w1 := (((Below.refl _ _).alloc (Nat.le_refl _) _).alloc (by simp) _).trans (hbel.mono (by simp; omega))
  have hz : w.heap.size + 1 < w1.heap.size := by have := hbel.size; simp at this; omega
  clear hbel hd
  go_wp2_with fail
  go_ret
  refine ⟨w1.heap.size + 1, by omega, rfl, by simp, ?_, ?_, ?_, ?_, ?_, ?_, ?_, ?_, ?_, ?_⟩
  all_goals first | (rw [World.cell?_alloc_at _ _ _ _ (by simp)]; rfl) | exact (hB.alloc (by omega) _).alloc (by simp; omega) _

set_option maxHeartbeats 1000000 in
theorem check_good (c0 c1 : Value) (_hc0 : c0.oneCell' = true) (_hc1 : c1.oneCell' = true) (ex : Bool) (op : ByteArray) (w : World)
    (hd : Hid (∀ w', Below w.heap.size w w' → Calls Try.prog 7 #[.agg #[c0, c1, .pointer none], .agg #[.bool ex, .string op, .bool false, .int .u64 0, .int .i64 0, .pointer none], .bool false] w' fun e w'' => e = .returned dProceed ∧ Below w'.heap.size w' w'')) :
    Calls Try.prog 6 #[.agg #[c0, c1, .pointer none], .agg #[.bool ex, .string op, .bool false, .int .u64 0, .int .i64 0, .pointer none]] w fun e w' => e = .returned .nilIface ∧ Below w.heap.size w w' := by
  go_enter Try.func6, Try.ntmps6
  go_wp2_with fail
  refine (hd.out _ (((Below.refl _ _).alloc (Nat.le_refl _) _).alloc (by simp) _)).mono ?_
  rintro e w1 ⟨rfl, hbel⟩
  have hB : Below w.heap.size w w1 := (((Below.refl _ _).alloc (Nat.le_refl _) _).alloc (by simp) _).trans (hbel.mono (by simp; omega))
  clear hbel hd
  unfold dProceed
  go_wp2_with fail
  go_ret
  exact ⟨rfl, hB.alloc hB.size _⟩

end Go.Proofs.Qxb6614527a
