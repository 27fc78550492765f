/-
  No cell of these rows narrows 'for every input' (looked for: loops, veiled, ifaces, maps, wideKeys, modest, calm, conditions, laid).
  DERIVED. THE GIVEN ROWS OF THIS SEAT. 1 by the template 'for every input the law returns true; each argument reads behind the call as it read before'; 0 by the template 'total and deterministic' (their statements: Qxb6614527aTotals.lean).
  GIVEN WITH THE SEED: the statements are not yours to turn. If you find one false, say at which input.
  Laid BY PROGRAM, IN A SANDBOX (cutbox-rows.mjs): the forced cells as the released guide's own fill.sh prints them over the translation 3b2c20c0d57a100e… (all of the seat's roots in one cut). By AI agents, Wed Nov 11 2026. No macro, syntax, notation, axiom, sorry.
-/
import Derived.Test.Qxb6614527aChecked
import GoSem.Claim
import GoSem.ClaimJoined
import GoSem.ClaimMapViews
import Derived.JoinedTies
import Derived.KernelRfl
namespace Go.Proofs.Qxb6614527a
/- THE CELL 'sum', in the pinned program and in every row, IS THE sha256 OF THE DUMP (.gsa) THAT Qxb6614527aProg.lean LOADS. Nothing in Lean hashes anything: it is a label: what it is worth is what the hold of that sum in a sandbox is worth. -/
noncomputable def Try.pinned : Pinned := { name := "qxb6614527a", sum := "3b2c20c0d57a100efcde9f4d865181abaea7b26dbcc76ca5391dfc3665f90464", checked := Try.checked }
namespace Rows
def none {H : Type} : Left H := { results := [], args := [] }

/-- 'zzlaws_root_b1.FnCheckExactlyOneWriterHoldingTheTagWins': WHATEVER THE INPUT: true; the input reads as it did. -/
def fnCheckExactlyOneWriterHoldingTheTagWinsSpec : ChangeSpec := { name := "fnCheckExactlyOneWriterHoldingTheTagWins", fn := fun _ => fun
  | [d1, d2, d3] => { results := [.lit (.bool true)], args := [d1, d2, d3] }
  | _ => none }
def fnCheckExactlyOneWriterHoldingTheTagWinsRow : OpenClaim := { program := "qxb6614527a", sum := "3b2c20c0d57a100efcde9f4d865181abaea7b26dbcc76ca5391dfc3665f90464", func := "example.com/tagstone/tagstone/zzlaws_root_b1.FnCheckExactlyOneWriterHoldingTheTagWins", spec := "fnCheckExactlyOneWriterHoldingTheTagWins", unfollowed := true, recurses := true, apart := false }
def FnCheckExactlyOneWriterHoldingTheTagWinsSaid : Prop := fnCheckExactlyOneWriterHoldingTheTagWinsRow.holds Try.pinned (OpenSpec.ofChange fnCheckExactlyOneWriterHoldingTheTagWinsSpec)

/-- ITS FALSE NEIGHBOUR: 'it returns false'. Refute it at one input. -/
def fnCheckExactlyOneWriterHoldingTheTagWinsWrong : ChangeSpec := { name := "fnCheckExactlyOneWriterHoldingTheTagWins", fn := fun _ => fun
  | [d1, d2, d3] => { results := [.lit (.bool false)], args := [d1, d2, d3] }
  | _ => none }
def FnCheckExactlyOneWriterHoldingTheTagWinsWrongFalsely : Prop := fnCheckExactlyOneWriterHoldingTheTagWinsRow.holds Try.pinned (OpenSpec.ofChange fnCheckExactlyOneWriterHoldingTheTagWinsWrong)

end Rows
end Go.Proofs.Qxb6614527a
