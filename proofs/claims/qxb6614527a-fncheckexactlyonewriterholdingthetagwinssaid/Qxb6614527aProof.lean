import Derived.Test.Qxb6614527aRows
import Derived.WalkKit
import Derived.ProofKit
import Derived.OpenShut
import Derived.ShutString
import Derived.ChangeOld
import Derived.Below
import Derived.SliceStrings
import Derived.Test.Qxb6614527aLawT
import Derived.Test.Qxb6614527aLawU
namespace Go.Proofs.Qxb6614527a.fnCheckExactlyOneWriterHoldingTheTagWins
open Go.ChangeShapes Go.WideShapes Go.ChangeAt Go.RowKit
open Go.ChangeMaps (open_string shut_string)
set_option linter.unusedVariables false

theorem own : ownKnob Try.prog.godebug = none := by kernel_rfl
theorem laidOut : laidOutB Try.prog = true := by kernel_rfl

/-- A slice of strings that came in: nil, or a row of 'cap' strings. -/
def IsStrs (w : World) (a : Option Addr) (len cap : Nat) (ss : List ByteArray) : Prop :=
  (a = none ∧ len = 0 ∧ cap = 0) ∨
  ∃ x, a = some x ∧ len ≤ cap ∧ cap ≤ maxLen ∧ ss.length = cap ∧ (∀ i, i < ss.length → w.cell? (x.add i) = some (.string (ss.getD i ByteArray.empty))) ∧ ∀ s ∈ ss, s.size ≤ maxLen

theorem size_getD (ss : List ByteArray) (h : ∀ s ∈ ss, s.size ≤ maxLen) (i : Nat) : (ss.getD i ByteArray.empty).size ≤ maxLen := by
  rcases Nat.lt_or_ge i ss.length with hi | hi
  · have e : ss.getD i ByteArray.empty = ss[i] := by simp [List.getD, hi]
    rw [e]
    exact h _ (List.getElem_mem hi)
  · have e : ss.getD i ByteArray.empty = ByteArray.empty := by simp [List.getD, List.getElem?_eq_none hi]
    rw [e]
    exact Nat.zero_le _

theorem none_any (a0 : Bool) (a1 : ByteArray) (A : Option Addr) (len cap : Nat) (w : World) (w1 : a1.size ≤ maxLen) (h : len = 0) :
    Calls Try.prog 3 #[.bool a0, .string a1, .slice A len cap] w fun e w' => e = .returned (.bool true) ∧ Below w.heap.size w w' := by
  cases a0
  · exact tag_none a1 A len cap (fun _ => ByteArray.empty) w w1 (by rw [h]; exact Nat.zero_le _) (fun _ => Nat.zero_le _) h
  · exact new_none a1 A len cap (fun _ => ByteArray.empty) w w1 (by rw [h]; exact Nat.zero_le _) (fun _ => Nat.zero_le _) h

theorem walk (a0 : Bool) (a1 : ByteArray) (a2 : Option Addr) (len2 cap2 : Nat) (z2 : List ByteArray) (w : World) (w1 : a1.size ≤ maxLen) (w2 : IsStrs w a2 len2 cap2 z2) :
    Calls Try.prog 3 #[.bool a0, .string a1, .slice a2 len2 cap2] w fun e w' => e = .returned (.bool true) ∧ Below w.heap.size w w' := by
  rcases w2 with ⟨rfl, h, rfl⟩ | ⟨x, rfl, hl, hm, hz, hcell, hws⟩
  · exact none_any a0 a1 none len2 0 w w1 h
  · by_cases h0 : len2 = 0
    · exact none_any a0 a1 (some x) len2 cap2 w w1 h0
    · obtain ⟨b, off, spot⟩ := x
      have hspot : spot = none := by simpa [Addr.add] using World.cell?_spot (hcell 0 (by omega))
      subst hspot
      have hc : ∀ i, i < len2 → w.cell? ⟨b, off + i, none⟩ = some (.string (z2.getD i ByteArray.empty)) := fun i hi => by rw [← add_plain]; exact hcell i (by omega)
      have hbw : b < w.heap.size := World.block_lt_of_cell? _ _ (hc 0 (by omega))
      cases a0
      · exact tag_some a1 b off len2 cap2 (fun i => z2.getD i ByteArray.empty) w w1 (by omega) (size_getD z2 hws) hbw hc
      · exact new_some a1 b off len2 cap2 (fun i => z2.getD i ByteArray.empty) w w1 (by omega) (size_getD z2 hws) hbw hc

set_option maxRecDepth 100000 in
theorem lifted (os : Os) (started : os.Started) (H : Type) (enc : TypeId × Value → H) :
    ReturnsInHanded {} Try.checked os 3 .any (Rows.fnCheckExactlyOneWriterHoldingTheTagWinsSpec.pre6 enc Try.prog Try.f3 Rows.fnCheckExactlyOneWriterHoldingTheTagWinsRow.domain false) (Rows.fnCheckExactlyOneWriterHoldingTheTagWinsSpec.post enc Try.prog Try.f3 false true false false) := by
  refine returnsInHanded_of_change (C := Try.checked) own started (by kernel_rfl) Try.func3
    (ChangeSpec.witness6 (enc := enc) (C := Try.checked) false ⟨#[], #[.bool false, .string ByteArray.empty, .slice none 0 0], []⟩ 8 (by kernel_rfl) (by kernel_rfl) (by kernel_rfl) (by kernel_rfl)) ?_
  intro W base args ds gs before hval0 hW hcnd _
  have hval : ∀ (j : Nat) t v, Try.f3.params[j]? = some t → args[j]? = some v → Value.okWide Try.prog W .any base t v := hval0
  have hW' := hW
  obtain ⟨p, q, hA0, hV, rfl, hfz, hnd⟩ := hW
  have hA : DataW.TrodAll enc Try.prog W 0 (fun _ => true) true Try.f3.params.toList args.toList ds p := hA0
  rw [Try.params3] at hA hval
  obtain ⟨v0, vs0, d0, ds0, p0, q0, hargs, rfl, rfl, h0, r0⟩ := trodAll_cons hA
  obtain ⟨v1, vs1, d1, ds1, p1, q1, rfl, rfl, rfl, h1, r1⟩ := trodAll_cons r0
  obtain ⟨v2, vs2, d2, ds2, p2, q2, rfl, rfl, rfl, h2, r2⟩ := trodAll_cons r1
  obtain ⟨rfl, rfl, rfl⟩ := trodAll_nil r2
  obtain rfl : args = #[v0, v1, v2] := by cases args; simp_all
  obtain ⟨rfl, rfl⟩ := trodVars_none hV
  obtain ⟨a0, rfl, rfl, rfl⟩ := open_bool Try.underlying4 (hval 0 4 v0 rfl rfl) h0
  obtain ⟨a1, rfl, rfl, rfl, w1⟩ := open_string Try.underlying9 (hval 1 9 v1 rfl rfl) h1
  obtain ⟨a2, len2, cap2, rfl⟩ := okWide_slice Try.underlying22 (hval 2 22 v2 rfl rfl)
  have k2 := h2
  have lt2 : ∀ x ∈ p2, x.block < W.heap.size := by obtain ⟨m, hm⟩ := k2; exact DataW.trod_lt m _ _ _ hm
  obtain ⟨z2, w2⟩ : ∃ ss, IsStrs W a2 len2 cap2 ss := by
    obtain ⟨fuel, hf⟩ := h2
    rcases open_strings Try.underlying22 Try.underlying9 (by kernel_rfl) hf with ⟨hcs, _⟩ | ⟨x, l, c, ss, hcs, _, hl, hm, hz, _, hcell, hws⟩
    · simp [Value.cells] at hcs
      obtain ⟨rfl, rfl, rfl⟩ := hcs
      exact ⟨[], .inl ⟨rfl, rfl, rfl⟩⟩
    · simp [Value.cells] at hcs
      obtain ⟨rfl, rfl, rfl⟩ := hcs
      exact ⟨ss, .inr ⟨_, rfl, hl, hm, by simpa using hz, hcell, hws⟩⟩
  clear hA0 hval0
  refine (walk a0 a1 a2 len2 cap2 z2 W w1 w2).mono fun e W' ⟨he, bel⟩ => ?_
  subst he
  exact ⟨_, rfl, _, _, _, [], _, [], hW', trodAll_mk1 (shut_bool Try.underlying4 _), (trodAll_cons_mk (shut_bool Try.underlying4 _) (trodAll_cons_mk (shut_string Try.underlying9 w1) (trodAll_cons_mk (Below.trod laidOut (by kernel_rfl) (of_decide_eq_true (by kernel_rfl)) k2 bel lt2) trodAll_mk0))), rfl, bel.frame _, fun h => by cases h⟩

theorem over : Rows.fnCheckExactlyOneWriterHoldingTheTagWinsRow.holds Try.pinned (OpenSpec.ofChange Rows.fnCheckExactlyOneWriterHoldingTheTagWinsSpec) :=
  OpenClaim.holds_of_wide 3 Try.f3 rfl rfl rfl rfl rfl rfl rfl ⟨rfl, rfl, rfl, rfl, rfl⟩ rfl rfl rfl rfl rfl (by kernel_rfl) Try.func3 (by kernel_rfl)
    (of_decide_eq_true (by kernel_rfl)) (by unfold Func.isWrapper; first | (rw [if_pos (by decide +kernel)]; kernel_rfl) | (rw [if_neg (by decide +kernel)]; exact ⟨rfl, rfl⟩))
    (fun os started H enc _ => lifted os started H enc)

/-- The statement. -/
theorem proved : Rows.FnCheckExactlyOneWriterHoldingTheTagWinsSaid :=
  over
end Go.Proofs.Qxb6614527a.fnCheckExactlyOneWriterHoldingTheTagWins
