import Derived.Test.Qxb6614527aBase
import Derived.RegionTactic
import Derived.BigRegion
namespace Go.Proofs.Qxb6614527a
open Go.RowKit

theorem below4 (w : World) (a b c d : Obj) : Below w.heap.size w ((((w.alloc a).alloc b).alloc c).alloc d) := ((((Below.refl _ _).alloc (Nat.le_refl _) _).alloc (by simp) _).alloc (by simp; omega) _).alloc (by simp; omega) _
/-- The empty resource. -/
def rZero : Value := .agg #[.bool false, .string ⟨#[]⟩, .bool false, .int .u64 0, .int .i64 0, .pointer none]

set_option maxHeartbeats 1000000 in
theorem zz_good (c0 c1 : Value) (hc0 : c0.oneCell' = true) (hc1 : c1.oneCell' = true) (ex : Bool) (op : ByteArray) (w : World)
    (hd : Hid (∀ w', Below w.heap.size w w' → Calls Try.prog 7 #[.agg #[c0, c1, .pointer none], .agg #[.bool ex, .string op, .bool false, .int .u64 0, .int .i64 0, .pointer none], .bool false] w' fun e w'' => e = .returned dProceed ∧ Below w'.heap.size w' w'')) :
    Calls Try.prog 5 #[.agg #[c0, c1, .pointer none], .agg #[.bool ex, .string op, .bool false, .int .u64 0, .int .i64 0, .pointer none]] w fun e w' => e = .returned (.tuple #[.bool false, dProceed, rZero]) ∧ Below w.heap.size w w' := by
  go_enter Try.func5, Try.ntmps5
  go_wp2_with fail
  refine (check_good c0 c1 hc0 hc1 ex op _ ?_).mono ?_
  · exact fun w' hw' => hd.out w' ((below4 _ _ _ _ _).trans (hw'.mono (by simp; omega)))
  rintro e w1 ⟨rfl, hbel⟩
  have hB : Below w.heap.size w w1 := (below4 _ _ _ _ _).trans (hbel.mono (by simp; omega))
  have dd0 : w1.cell? ⟨w.heap.size + 1 + 1, 0, none⟩ = some (.int .i64 0) := (hbel.cell (p := ⟨w.heap.size + 1 + 1, 0, none⟩) (by simp)).trans (by rw [World.cell?_alloc_past _ _ _ (by simp), World.cell?_alloc_at _ _ _ _ (by simp)]; rfl)
  have ddf0 : w1.frozen? ⟨w.heap.size + 1 + 1, 0, none⟩ = false := (hbel.frozen (p := ⟨w.heap.size + 1 + 1, 0, none⟩) (by simp)).trans (by rw [World.frozen?_alloc_past _ _ _ (by simp), World.frozen?_alloc_at _ _ _ _ (by simp)])
  have dd1 : w1.cell? ⟨w.heap.size + 1 + 1, 1, none⟩ = some (.string ⟨#[]⟩) := (hbel.cell (p := ⟨w.heap.size + 1 + 1, 1, none⟩) (by simp)).trans (by rw [World.cell?_alloc_past _ _ _ (by simp), World.cell?_alloc_at _ _ _ _ (by simp)]; rfl)
  have ddf1 : w1.frozen? ⟨w.heap.size + 1 + 1, 1, none⟩ = false := (hbel.frozen (p := ⟨w.heap.size + 1 + 1, 1, none⟩) (by simp)).trans (by rw [World.frozen?_alloc_past _ _ _ (by simp), World.frozen?_alloc_at _ _ _ _ (by simp)])
  have dd2 : w1.cell? ⟨w.heap.size + 1 + 1, 2, none⟩ = some (.bool false) := (hbel.cell (p := ⟨w.heap.size + 1 + 1, 2, none⟩) (by simp)).trans (by rw [World.cell?_alloc_past _ _ _ (by simp), World.cell?_alloc_at _ _ _ _ (by simp)]; rfl)
  have ddf2 : w1.frozen? ⟨w.heap.size + 1 + 1, 2, none⟩ = false := (hbel.frozen (p := ⟨w.heap.size + 1 + 1, 2, none⟩) (by simp)).trans (by rw [World.frozen?_alloc_past _ _ _ (by simp), World.frozen?_alloc_at _ _ _ _ (by simp)])
  have rr0 : w1.cell? ⟨w.heap.size + 1 + 1 + 1, 0, none⟩ = some (.bool false) := (hbel.cell (p := ⟨w.heap.size + 1 + 1 + 1, 0, none⟩) (by simp)).trans (by rw [World.cell?_alloc_at _ _ _ _ (by simp)]; rfl)
  have rrf0 : w1.frozen? ⟨w.heap.size + 1 + 1 + 1, 0, none⟩ = false := (hbel.frozen (p := ⟨w.heap.size + 1 + 1 + 1, 0, none⟩) (by simp)).trans (by rw [World.frozen?_alloc_at _ _ _ _ (by simp)])
  have rr1 : w1.cell? ⟨w.heap.size + 1 + 1 + 1, 1, none⟩ = some (.string ⟨#[]⟩) := (hbel.cell (p := ⟨w.heap.size + 1 + 1 + 1, 1, none⟩) (by simp)).trans (by rw [World.cell?_alloc_at _ _ _ _ (by simp)]; rfl)
  have rrf1 : w1.frozen? ⟨w.heap.size + 1 + 1 + 1, 1, none⟩ = false := (hbel.frozen (p := ⟨w.heap.size + 1 + 1 + 1, 1, none⟩) (by simp)).trans (by rw [World.frozen?_alloc_at _ _ _ _ (by simp)])
  have rr2 : w1.cell? ⟨w.heap.size + 1 + 1 + 1, 2, none⟩ = some (.bool false) := (hbel.cell (p := ⟨w.heap.size + 1 + 1 + 1, 2, none⟩) (by simp)).trans (by rw [World.cell?_alloc_at _ _ _ _ (by simp)]; rfl)
  have rrf2 : w1.frozen? ⟨w.heap.size + 1 + 1 + 1, 2, none⟩ = false := (hbel.frozen (p := ⟨w.heap.size + 1 + 1 + 1, 2, none⟩) (by simp)).trans (by rw [World.frozen?_alloc_at _ _ _ _ (by simp)])
  have rr3 : w1.cell? ⟨w.heap.size + 1 + 1 + 1, 3, none⟩ = some (.int .u64 0) := (hbel.cell (p := ⟨w.heap.size + 1 + 1 + 1, 3, none⟩) (by simp)).trans (by rw [World.cell?_alloc_at _ _ _ _ (by simp)]; rfl)
  have rrf3 : w1.frozen? ⟨w.heap.size + 1 + 1 + 1, 3, none⟩ = false := (hbel.frozen (p := ⟨w.heap.size + 1 + 1 + 1, 3, none⟩) (by simp)).trans (by rw [World.frozen?_alloc_at _ _ _ _ (by simp)])
  have rr4 : w1.cell? ⟨w.heap.size + 1 + 1 + 1, 4, none⟩ = some (.int .i64 0) := (hbel.cell (p := ⟨w.heap.size + 1 + 1 + 1, 4, none⟩) (by simp)).trans (by rw [World.cell?_alloc_at _ _ _ _ (by simp)]; rfl)
  have rrf4 : w1.frozen? ⟨w.heap.size + 1 + 1 + 1, 4, none⟩ = false := (hbel.frozen (p := ⟨w.heap.size + 1 + 1 + 1, 4, none⟩) (by simp)).trans (by rw [World.frozen?_alloc_at _ _ _ _ (by simp)])
  have rr5 : w1.cell? ⟨w.heap.size + 1 + 1 + 1, 5, none⟩ = some (.pointer none) := (hbel.cell (p := ⟨w.heap.size + 1 + 1 + 1, 5, none⟩) (by simp)).trans (by rw [World.cell?_alloc_at _ _ _ _ (by simp)]; rfl)
  have rrf5 : w1.frozen? ⟨w.heap.size + 1 + 1 + 1, 5, none⟩ = false := (hbel.frozen (p := ⟨w.heap.size + 1 + 1 + 1, 5, none⟩) (by simp)).trans (by rw [World.frozen?_alloc_at _ _ _ _ (by simp)])
  clear hbel hd
  go_wp2_with fail
  exact bodyPost_ret (v := .tuple #[.bool false, dProceed, rZero]) (by simp [dProceed, rZero, results, Try.results5, go_sem, dd0, dd1, dd2, rr0, rr1, rr2, rr3, rr4, rr5]) rfl ⟨rfl, (((((((((hB).setCell (by simp; omega) _).setCell (by simp; omega) _).setCell (by simp; omega) _).setCell (by simp; omega) _).setCell (by simp; omega) _).setCell (by simp; omega) _).setCell (by simp; omega) _).setCell (by simp; omega) _).setCell (by simp; omega) _⟩

theorem assert_ok (a : Addr) (w : World) : (Instr.typeAssert (.iface 47 (.pointer (some a))) 45 47 true).run Try.prog w = .ok (.tuple #[.pointer (some a), .bool true]) w := by kernel_rfl

set_option maxHeartbeats 1000000 in
theorem zz_bad (c0 c1 : Value) (hc0 : c0.oneCell' = true) (hc1 : c1.oneCell' = true) (d1 : ByteArray) (ex : Bool) (op : ByteArray) (w : World)
    (hd : Hid (∀ w', Below w.heap.size w w' → Calls Try.prog 7 #[.agg #[c0, c1, .pointer none], .agg #[.bool ex, .string op, .bool false, .int .u64 0, .int .i64 0, .pointer none], .bool false] w' fun e w'' => e = .returned (.agg #[.int .i64 2, .string d1, .bool false]) ∧ Below w'.heap.size w' w'')) :
    Calls Try.prog 5 #[.agg #[c0, c1, .pointer none], .agg #[.bool ex, .string op, .bool false, .int .u64 0, .int .i64 0, .pointer none]] w fun e w' => e = .returned (.tuple #[.bool true, .agg #[.int .i64 2, .string d1, .bool false], .agg #[.bool ex, .string op, .bool false, .int .u64 0, .int .i64 0, .pointer none]]) ∧ Below w.heap.size w w' := by
  go_enter Try.func5, Try.ntmps5
  go_wp2_with fail
  refine (check_bad c0 c1 hc0 hc1 d1 ex op _ ?_).mono ?_
  · exact fun w' hw' => hd.out w' ((below4 _ _ _ _ _).trans (hw'.mono (by simp; omega)))
  rintro e w1 ⟨b, hb, rfl, hb2, x0, x1, x2, x3, x4, x5, x6, x7, x8, hbel⟩
  have hB : Below w.heap.size w w1 := (below4 _ _ _ _ _).trans (hbel.mono (by simp; omega))
  have hb3 : w.heap.size + 1 + 1 + 1 < b := by simp at hb; omega
  have ne1 : ¬ b = w.heap.size + 1 + 1 := by omega
  have ne2 : ¬ b = w.heap.size + 1 + 1 + 1 := by omega
  have ne3 : ¬ w.heap.size + 1 + 1 = b := by omega
  have ne4 : ¬ w.heap.size + 1 + 1 + 1 = b := by omega
  have dd0 : w1.cell? ⟨w.heap.size + 1 + 1, 0, none⟩ = some (.int .i64 0) := (hbel.cell (p := ⟨w.heap.size + 1 + 1, 0, none⟩) (by simp)).trans (by rw [World.cell?_alloc_past _ _ _ (by simp), World.cell?_alloc_at _ _ _ _ (by simp)]; rfl)
  have ddf0 : w1.frozen? ⟨w.heap.size + 1 + 1, 0, none⟩ = false := (hbel.frozen (p := ⟨w.heap.size + 1 + 1, 0, none⟩) (by simp)).trans (by rw [World.frozen?_alloc_past _ _ _ (by simp), World.frozen?_alloc_at _ _ _ _ (by simp)])
  have dd1 : w1.cell? ⟨w.heap.size + 1 + 1, 1, none⟩ = some (.string ⟨#[]⟩) := (hbel.cell (p := ⟨w.heap.size + 1 + 1, 1, none⟩) (by simp)).trans (by rw [World.cell?_alloc_past _ _ _ (by simp), World.cell?_alloc_at _ _ _ _ (by simp)]; rfl)
  have ddf1 : w1.frozen? ⟨w.heap.size + 1 + 1, 1, none⟩ = false := (hbel.frozen (p := ⟨w.heap.size + 1 + 1, 1, none⟩) (by simp)).trans (by rw [World.frozen?_alloc_past _ _ _ (by simp), World.frozen?_alloc_at _ _ _ _ (by simp)])
  have dd2 : w1.cell? ⟨w.heap.size + 1 + 1, 2, none⟩ = some (.bool false) := (hbel.cell (p := ⟨w.heap.size + 1 + 1, 2, none⟩) (by simp)).trans (by rw [World.cell?_alloc_past _ _ _ (by simp), World.cell?_alloc_at _ _ _ _ (by simp)]; rfl)
  have ddf2 : w1.frozen? ⟨w.heap.size + 1 + 1, 2, none⟩ = false := (hbel.frozen (p := ⟨w.heap.size + 1 + 1, 2, none⟩) (by simp)).trans (by rw [World.frozen?_alloc_past _ _ _ (by simp), World.frozen?_alloc_at _ _ _ _ (by simp)])
  have rr0 : w1.cell? ⟨w.heap.size + 1 + 1 + 1, 0, none⟩ = some (.bool false) := (hbel.cell (p := ⟨w.heap.size + 1 + 1 + 1, 0, none⟩) (by simp)).trans (by rw [World.cell?_alloc_at _ _ _ _ (by simp)]; rfl)
  have rrf0 : w1.frozen? ⟨w.heap.size + 1 + 1 + 1, 0, none⟩ = false := (hbel.frozen (p := ⟨w.heap.size + 1 + 1 + 1, 0, none⟩) (by simp)).trans (by rw [World.frozen?_alloc_at _ _ _ _ (by simp)])
  have rr1 : w1.cell? ⟨w.heap.size + 1 + 1 + 1, 1, none⟩ = some (.string ⟨#[]⟩) := (hbel.cell (p := ⟨w.heap.size + 1 + 1 + 1, 1, none⟩) (by simp)).trans (by rw [World.cell?_alloc_at _ _ _ _ (by simp)]; rfl)
  have rrf1 : w1.frozen? ⟨w.heap.size + 1 + 1 + 1, 1, none⟩ = false := (hbel.frozen (p := ⟨w.heap.size + 1 + 1 + 1, 1, none⟩) (by simp)).trans (by rw [World.frozen?_alloc_at _ _ _ _ (by simp)])
  have rr2 : w1.cell? ⟨w.heap.size + 1 + 1 + 1, 2, none⟩ = some (.bool false) := (hbel.cell (p := ⟨w.heap.size + 1 + 1 + 1, 2, none⟩) (by simp)).trans (by rw [World.cell?_alloc_at _ _ _ _ (by simp)]; rfl)
  have rrf2 : w1.frozen? ⟨w.heap.size + 1 + 1 + 1, 2, none⟩ = false := (hbel.frozen (p := ⟨w.heap.size + 1 + 1 + 1, 2, none⟩) (by simp)).trans (by rw [World.frozen?_alloc_at _ _ _ _ (by simp)])
  have rr3 : w1.cell? ⟨w.heap.size + 1 + 1 + 1, 3, none⟩ = some (.int .u64 0) := (hbel.cell (p := ⟨w.heap.size + 1 + 1 + 1, 3, none⟩) (by simp)).trans (by rw [World.cell?_alloc_at _ _ _ _ (by simp)]; rfl)
  have rrf3 : w1.frozen? ⟨w.heap.size + 1 + 1 + 1, 3, none⟩ = false := (hbel.frozen (p := ⟨w.heap.size + 1 + 1 + 1, 3, none⟩) (by simp)).trans (by rw [World.frozen?_alloc_at _ _ _ _ (by simp)])
  have rr4 : w1.cell? ⟨w.heap.size + 1 + 1 + 1, 4, none⟩ = some (.int .i64 0) := (hbel.cell (p := ⟨w.heap.size + 1 + 1 + 1, 4, none⟩) (by simp)).trans (by rw [World.cell?_alloc_at _ _ _ _ (by simp)]; rfl)
  have rrf4 : w1.frozen? ⟨w.heap.size + 1 + 1 + 1, 4, none⟩ = false := (hbel.frozen (p := ⟨w.heap.size + 1 + 1 + 1, 4, none⟩) (by simp)).trans (by rw [World.frozen?_alloc_at _ _ _ _ (by simp)])
  have rr5 : w1.cell? ⟨w.heap.size + 1 + 1 + 1, 5, none⟩ = some (.pointer none) := (hbel.cell (p := ⟨w.heap.size + 1 + 1 + 1, 5, none⟩) (by simp)).trans (by rw [World.cell?_alloc_at _ _ _ _ (by simp)]; rfl)
  have rrf5 : w1.frozen? ⟨w.heap.size + 1 + 1 + 1, 5, none⟩ = false := (hbel.frozen (p := ⟨w.heap.size + 1 + 1 + 1, 5, none⟩) (by simp)).trans (by rw [World.frozen?_alloc_at _ _ _ _ (by simp)])
  clear hbel hd hb
  have hta := assert_ok
  go_wp2_with fail
  go_region
  go_wp2_with fail
  exact bodyPost_ret (v := .tuple #[.bool true, .agg #[.int .i64 2, .string d1, .bool false], .agg #[.bool ex, .string op, .bool false, .int .u64 0, .int .i64 0, .pointer none]]) (by simp [results, Try.results5, go_sem, dd0, dd1, dd2, rr0, rr1, rr2, rr3, rr4, rr5]) rfl ⟨rfl, ((((((((((hB).setCell (by simp; omega) _).setCell (by simp; omega) _).setCell (by simp; omega) _).setCell (by simp; omega) _).setCell (by simp; omega) _).setCell (by simp; omega) _).setCell (by simp; omega) _).setCell (by simp; omega) _).setCell (by simp; omega) _).drew⟩

/-- What ZZcheck hands out. -/
def zzOut (failed : Bool) (d1 : ByteArray) (ex : Bool) (op : ByteArray) : Value :=
  if failed then .tuple #[.bool true, .agg #[.int .i64 2, .string d1, .bool false], .agg #[.bool ex, .string op, .bool false, .int .u64 0, .int .i64 0, .pointer none]] else .tuple #[.bool false, dProceed, rZero]

def sMatch : ByteArray := ⟨#[73, 102, 45, 77, 97, 116, 99, 104]⟩
def sNone : ByteArray := ⟨#[73, 102, 45, 78, 111, 110, 101, 45, 77, 97, 116, 99, 104]⟩

/-- A write that holds the tag ini meets a resource that bears op. -/
theorem zz_tag (T S : Nat) (ini op : ByteArray) (b : Bool) (hb : Hid ((ini.toList == op.toList) = b)) (w : World) (h0 : w.cell? ⟨T, 0, none⟩ = some (.bool false)) (h1 : w.cell? ⟨T, 1, none⟩ = some (.slice (some ⟨S, 0, none⟩) 1 1))
    (s0 : w.cell? ⟨S, 0, none⟩ = some (.string ini)) (s1 : w.cell? ⟨S, 1, none⟩ = some (.bool false)) :
    Calls Try.prog 5 #[.agg #[.pointer (some ⟨T, 0, none⟩), .pointer none, .pointer none], .agg #[.bool true, .string op, .bool false, .int .u64 0, .int .i64 0, .pointer none]] w fun e w' => e = .returned (zzOut (!b) sMatch true op) ∧ Below w.heap.size w w' := by
  have hT := World.block_lt_of_cell? _ _ h0
  have hS := World.block_lt_of_cell? _ _ s0
  have hd : ∀ w', Below w.heap.size w w' → Calls Try.prog 7 #[.agg #[.pointer (some ⟨T, 0, none⟩), .pointer none, .pointer none], .agg #[.bool true, .string op, .bool false, .int .u64 0, .int .i64 0, .pointer none], .bool false] w' fun e w'' => e = .returned (if b then dProceed else dMatch) ∧ Below w'.heap.size w' w'' :=
    fun w' hw => decide_tag T S ini op b hb w' ((hw.cell (p := ⟨T, 0, none⟩) hT).trans h0) ((hw.cell (p := ⟨T, 1, none⟩) hT).trans h1) ((hw.cell (p := ⟨S, 0, none⟩) hS).trans s0) ((hw.cell (p := ⟨S, 1, none⟩) hS).trans s1)
  cases b
  · exact zz_bad _ _ rfl rfl _ _ _ _ hd
  · exact zz_good _ _ rfl rfl _ _ _ hd

/-- A write that asks for a resource that is not there. -/
theorem zz_none (T : Nat) (ex : Bool) (op : ByteArray) (w : World) (h0 : w.cell? ⟨T, 0, none⟩ = some (.bool true)) :
    Calls Try.prog 5 #[.agg #[.pointer none, .pointer (some ⟨T, 0, none⟩), .pointer none], .agg #[.bool ex, .string op, .bool false, .int .u64 0, .int .i64 0, .pointer none]] w fun e w' => e = .returned (zzOut ex sNone ex op) ∧ Below w.heap.size w w' := by
  have hT := World.block_lt_of_cell? _ _ h0
  have hd : ∀ w', Below w.heap.size w w' → Calls Try.prog 7 #[.agg #[.pointer none, .pointer (some ⟨T, 0, none⟩), .pointer none], .agg #[.bool ex, .string op, .bool false, .int .u64 0, .int .i64 0, .pointer none], .bool false] w' fun e w'' => e = .returned (if ex then dNone else dProceed) ∧ Below w'.heap.size w' w'' :=
    fun w' hw => decide_none T ex op w' ((hw.cell (p := ⟨T, 0, none⟩) hT).trans h0)
  cases ex
  · exact zz_good _ _ rfl rfl _ _ _ hd
  · exact zz_bad _ _ rfl rfl _ _ _ _ hd

end Go.Proofs.Qxb6614527a
