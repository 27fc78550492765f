import Derived.Test.Qxb6608872aKeep
import Derived.Test.Qxb6608872aNew
namespace Go.Proofs.Qxb6608872a
open Go.RowKit Go.Deep

/-- The first N words of block G are F's. -/
def Row (w : World) (G N : Nat) (F : Nat → Int) : Prop := ∀ i, i < N → w.cell? ⟨G, i, none⟩ = some (.int .u64 (F i)) ∧ w.frozen? ⟨G, i, none⟩ = false
def upd (F : Nat → Int) (p : Nat) (v : Int) : Nat → Int := fun i => if i = p then v else F i

theorem Row.set {w : World} {G N : Nat} {F : Nat → Int} (h : Row w G N F) {p : Nat} (hp : p < N) (v : Int) : Row (w.setCell ⟨G, p, none⟩ (.int .u64 v)) G N (upd F p v) := by
  intro i hi
  refine ⟨?_, by rw [World.frozen?_setCell]; exact (h i hi).2⟩
  by_cases e : i = p
  · subst e
    rw [World.cell?_setCell_same _ _ _ (h i hi).1]
    simp [upd]
  · rw [World.cell?_setCell_other _ _ _ _ (fun e' => e (by cases e'; rfl)), (h i hi).1]
    simp [upd, e]
theorem grown_cell {w w' : World} {B : Nat} (h : w.grownBy w' (some B)) {p : Addr} (hp : p.block < w.heap.size) (hn : p.block ≠ B) : w'.cell? p = w.cell? p := World.cell?_of_block (w := w) (h.block p.block hp (by simpa using hn))
theorem grown_frozen {w w' : World} {B : Nat} (h : w.grownBy w' (some B)) {p : Addr} (hp : p.block < w.heap.size) (hn : p.block ≠ B) : w'.frozen? p = w.frozen? p := World.frozen?_of_block (w := w) (h.block p.block hp (by simpa using hn))
theorem Row.grown {w w' : World} {B G N : Nat} {F : Nat → Int} (h : Row w G N F) (hg : w.grownBy w' (some B)) (hl : G < w.heap.size) (hn : G ≠ B) : Row w' G N F :=
  fun i hi => ⟨(grown_cell hg (p := ⟨G, i, none⟩) hl hn).trans (h i hi).1, (grown_frozen hg (p := ⟨G, i, none⟩) hl hn).trans (h i hi).2⟩

/-- The scratch and its words. -/
structure Ready (B G k c : Nat) (of : Nat → Nat) (F : Nat → Int) (w : World) : Prop where
  sz : Sized B G k c of w
  row : Row w G (7 * c) F
  hi : B < G
  lt : G < w.heap.size
  ltB : B < w.heap.size
  kc : k ≤ c
  off : ∀ j, j < 7 → of j = j * c

def KPost (B G n c : Nat) (of : Nat → Nat) (F : Nat → Int) (w : World) (e : Ending) (w' : World) : Prop := e = .returned (.tuple #[]) ∧ Ready B G (n + 1) c of F w' ∧ w.grownBy w' (some B)
def NPost (B n : Nat) (w : World) (e : Ending) (w' : World) : Prop := e = .returned (.tuple #[]) ∧ (∃ G of, Ready B G (n + 1) (n + 1) of (fun _ => 0) w') ∧ w.grownBy w' (some B)

theorem ready_keep {B G k c n : Nat} {of : Nat → Nat} {F : Nat → Int} {w : World} (h : Ready B G k c of F w) (hn : n ≤ 65536) (hc : n + 1 ≤ c) :
    Calls Try.prog 8 #[.pointer (some ⟨B, 0, none⟩), .int .i64 n] w (KPost B G n c of F w) :=
  (size_keep B n G c k of w hn hc h.ltB h.sz).mono fun _ _ ⟨he, hs, hg⟩ =>
    ⟨he, ⟨hs, h.row.grown hg h.lt (by have := h.hi; omega), h.hi, Nat.lt_of_lt_of_le h.lt hg.size, Nat.lt_of_lt_of_le h.ltB hg.size, hc, h.off⟩, hg⟩

theorem npost_of {B n : Nat} {w : World} (hB : B < w.heap.size) {e : Ending} {w' : World} (h : NewPost B n (fun j => j * (n + 1)) w e w') : NPost B n w e w' := by
  obtain ⟨he, G, h1, h2, hs, hr, hg⟩ := h
  exact ⟨he, ⟨G, _, ⟨hs, hr, by omega, h2, Nat.lt_of_lt_of_le hB hg.size, Nat.le_refl _, fun j _ => rfl⟩⟩, hg⟩

theorem ready_new {B G k c n : Nat} {of : Nat → Nat} {F : Nat → Int} {w : World} (h : Ready B G k c of F w) (hn : n ≤ 65536) (hc : c < n + 1) :
    Calls Try.prog 8 #[.pointer (some ⟨B, 0, none⟩), .int .i64 n] w (NPost B n w) :=
  (size_new B n (fun j => j * (n + 1)) w _ _ _ _ _ _ _ _ _ (fun _ _ => rfl) hn hc h.ltB h.sz.c0 h.sz.c1 h.sz.c2 h.sz.c3 h.sz.c4 h.sz.c5 h.sz.c6 h.sz.f0 h.sz.f1 h.sz.f2 h.sz.f3 h.sz.f4 h.sz.f5 h.sz.f6).mono fun _ _ hp => npost_of h.ltB hp

/-- The new scratch's block. -/
def fresh : Obj := .cells #[.slice none 0 0, .slice none 0 0, .slice none 0 0, .slice none 0 0, .slice none 0 0, .slice none 0 0, .slice none 0 0, .bool false, .slice none 0 0] 35

theorem fresh_new {n : Nat} (w : World) (hn : n ≤ 65536) :
    Calls Try.prog 8 #[.pointer (some ⟨w.heap.size, 0, none⟩), .int .i64 n] (w.alloc fresh) (NPost w.heap.size n (w.alloc fresh)) := by
  have hB : w.heap.size < (w.alloc fresh).heap.size := by simp
  refine (size_new w.heap.size n (fun j => j * (n + 1)) (w.alloc fresh) none 0 0 (.slice none 0 0) (.slice none 0 0) (.slice none 0 0) (.slice none 0 0) (.slice none 0 0) (.slice none 0 0) (fun _ _ => rfl) hn (by omega) hB ?_ ?_ ?_ ?_ ?_ ?_ ?_ ?_ ?_ ?_ ?_ ?_ ?_ ?_).mono fun _ _ hp => npost_of hB hp
  all_goals first | exact World.cell?_alloc_at _ _ _ _ rfl | exact World.frozen?_alloc_at _ _ _ _ rfl

theorem zznew_any (w : World) : Calls Try.prog 5 #[] w fun e w' => e = .returned (.pointer (some ⟨w.heap.size, 0, none⟩)) ∧ w' = w.alloc fresh := by
  go_enter Try.func5, Try.ntmps5
  go_wp2
  go_ret
  exact ⟨rfl, rfl⟩

theorem zzsize_of {B n : Nat} {w : World} {R : Ending → World → Prop} (h : Calls Try.prog 8 #[.pointer (some ⟨B, 0, none⟩), .int .i64 n] w R) (hR : ∀ e w', R e w' → e = .returned (.tuple #[])) :
    Calls Try.prog 6 #[.pointer (some ⟨B, 0, none⟩), .int .i64 n] w R := by
  go_enter Try.func6, Try.ntmps6
  go_wp2_with fail
  refine h.mono ?_
  intro e w' hr
  have := hR e w' hr
  subst this
  go_wp2_with fail
  go_end0
  exact hr

/-- The seven numbers. -/
def seven (G k c : Nat) (of : Nat → Nat) : Value := .tuple #[.slice (some ⟨G, of 0, none⟩) k c, .slice (some ⟨G, of 1, none⟩) k c, .slice (some ⟨G, of 2, none⟩) k c, .slice (some ⟨G, of 3, none⟩) k c, .slice (some ⟨G, of 4, none⟩) k c, .slice (some ⟨G, of 5, none⟩) k c, .slice (some ⟨G, of 6, none⟩) k c]

theorem Ready.drewN {B G k c : Nat} {of : Nat → Nat} {F : Nat → Int} {w : World} (h : Ready B G k c of F w) (q : Nat) : Ready B G k c of F (w.drewN q) :=
  ⟨⟨h.sz.c0, h.sz.c1, h.sz.c2, h.sz.c3, h.sz.c4, h.sz.c5, h.sz.c6, h.sz.f0, h.sz.f1, h.sz.f2, h.sz.f3, h.sz.f4, h.sz.f5, h.sz.f6⟩, h.row, h.hi, h.lt, h.ltB, h.kc, h.off⟩

def FPost (B G k c : Nat) (of : Nat → Nat) (F : Nat → Int) (w : World) (e : Ending) (w' : World) : Prop := e = .returned (seven G k c of) ∧ Ready B G k c of F w' ∧ w.grownBy w' (some B)

set_option maxHeartbeats 1000000 in
theorem fields_any {B G k c : Nat} {of : Nat → Nat} {F : Nat → Int} {w : World} (h : Ready B G k c of F w) :
    Calls Try.prog 7 #[.pointer (some ⟨B, 0, none⟩)] w (FPost B G k c of F w) := by
  obtain ⟨h0, h1, h2, h3, h4, h5, h6, f0, f1, f2, f3, f4, f5, f6⟩ := h.sz
  go_enter Try.func7, Try.ntmps7
  go_wp2
  go_quiet (fail)
  go_wp2_with fail
  exact bodyPost_ret (v := seven G k c of) (by simp [seven, results, Try.results7, go_sem]) rfl ⟨rfl, h.drewN _, ⟨rfl, rfl, rfl, Nat.le_refl _, fun _ _ _ => rfl⟩⟩

/-- Either way: the numbers have n + 1 words. -/
def APost (B n : Nat) (w : World) (e : Ending) (w' : World) : Prop := e = .returned (.tuple #[]) ∧ (∃ G c of F, Ready B G (n + 1) c of F w') ∧ w.grownBy w' (some B)
theorem ready_any {B G k c n : Nat} {of : Nat → Nat} {F : Nat → Int} {w : World} (h : Ready B G k c of F w) (hn : n ≤ 65536) :
    Calls Try.prog 6 #[.pointer (some ⟨B, 0, none⟩), .int .i64 n] w (APost B n w) := by
  refine zzsize_of ?_ (fun _ _ h => h.1)
  by_cases hc : n + 1 ≤ c
  · exact (ready_keep h hn hc).mono fun _ _ ⟨a, b, d⟩ => ⟨a, ⟨G, c, of, F, b⟩, d⟩
  · exact (ready_new h hn (by omega)).mono fun _ _ ⟨a, ⟨G', of', b⟩, d⟩ => ⟨a, ⟨G', _, of', _, b⟩, d⟩

theorem below_grown {B : Nat} {w a b : World} (h : Below B w a) (hB : B ≤ a.heap.size) (hg : a.grownBy b (some B)) : Below B w b :=
  h.grown hg hB (by intro k hk; cases hk; exact Nat.le_refl _)

theorem upd_ne {F : Nat → Int} {p i : Nat} {v : Int} (h : i ≠ p) : upd F p v i = F i := by simp [upd, h]
theorem upd_eq {F : Nat → Int} {p : Nat} {v : Int} : upd F p v p = v := by simp [upd]
theorem Row.at {w : World} {G N : Nat} {F : Nat → Int} (h : Row w G N F) {i : Nat} (hi : i < N) {z : Int} (hz : F i = z) : w.cell? ⟨G, i, none⟩ = some (.int .u64 z) := by rw [← hz]; exact (h i hi).1
theorem Row.fr {w : World} {G N : Nat} {F : Nat → Int} (h : Row w G N F) {i : Nat} (hi : i < N) : w.frozen? ⟨G, i, none⟩ = false := (h i hi).2

/-- All of 'Ready' but the words. -/
structure Fit (B G k c : Nat) (of : Nat → Nat) (w : World) : Prop where
  sz : Sized B G k c of w
  hi : B < G
  lt : G < w.heap.size
  ltB : B < w.heap.size
  kc : k ≤ c
  off : ∀ j, j < 7 → of j = j * c
theorem Ready.other {B G k c : Nat} {of : Nat → Nat} {F : Nat → Int} {w : World} (h : Ready B G k c of F w) : Fit B G k c of w := ⟨h.sz, h.hi, h.lt, h.ltB, h.kc, h.off⟩
theorem Fit.back {B G k c : Nat} {of : Nat → Nat} {F : Nat → Int} {w : World} (h : Fit B G k c of w) (hr : Row w G (7 * c) F) : Ready B G k c of F w := ⟨h.sz, hr, h.hi, h.lt, h.ltB, h.kc, h.off⟩
theorem Fit.poke {B G k c : Nat} {of : Nat → Nat} {w : World} (h : Fit B G k c of w) (p : Nat) (v : Value) : Fit B G k c of (w.setCell ⟨G, p, none⟩ v) := by
  have hne : B ≠ G := by have := h.hi; omega
  have hc : ∀ j, (w.setCell ⟨G, p, none⟩ v).cell? ⟨B, j, none⟩ = w.cell? ⟨B, j, none⟩ := fun j => World.cell?_setCell_other _ _ _ _ (fun e => hne (by cases e; rfl))
  have hf : ∀ j, (w.setCell ⟨G, p, none⟩ v).frozen? ⟨B, j, none⟩ = w.frozen? ⟨B, j, none⟩ := fun j => World.frozen?_setCell _ _ _ _
  obtain ⟨⟨h0, h1, h2, h3, h4, h5, h6, f0, f1, f2, f3, f4, f5, f6⟩, a, b, d, e, g⟩ := h
  exact ⟨⟨(hc 0).trans h0, (hc 1).trans h1, (hc 2).trans h2, (hc 3).trans h3, (hc 4).trans h4, (hc 5).trans h5, (hc 6).trans h6, (hf 0).trans f0, (hf 1).trans f1, (hf 2).trans f2, (hf 3).trans f3, (hf 4).trans f4, (hf 5).trans f5, (hf 6).trans f6⟩, a, by simpa using b, by simpa using d, e, g⟩

end Go.Proofs.Qxb6608872a
