/-
  No cell of these rows narrows 'for every input' (looked for: loops, veiled, ifaces, maps, wideKeys, modest, calm, conditions, laid).
  DERIVED. THE GIVEN ROWS OF THIS SEAT. 2 by the template 'for every input the law returns true; each argument reads behind the call as it read before'; 0 by the template 'total and deterministic' (their statements: Qxb6609146aTotals.lean).
  GIVEN WITH THE SEED: the statements are not yours to turn. If you find one false, say at which input.
  Laid BY PROGRAM, IN A SANDBOX (cutbox-rows.mjs): the forced cells as the released guide's own fill.sh prints them over the translation 0c2d931264f88a82… (all of the seat's roots in one cut). By AI agents, Wed Nov 11 2026. No macro, syntax, notation, axiom, sorry.
-/
import Derived.Test.Qxb6609146aChecked
import GoSem.Claim
import GoSem.ClaimJoined
import GoSem.ClaimMapViews
import Derived.JoinedTies
import Derived.KernelRfl
namespace Go.Proofs.Qxb6609146a
/- THE CELL 'sum', in the pinned program and in every row, IS THE sha256 OF THE DUMP (.gsa) THAT Qxb6609146aProg.lean LOADS. Nothing in Lean hashes anything: it is a label: what it is worth is what the hold of that sum in a sandbox is worth. -/
noncomputable def Try.pinned : Pinned := { name := "qxb6609146a", sum := "0c2d931264f88a82cebd3e47aaf160e28211770507e991e9c67cc0840e558f2f", checked := Try.checked }
namespace Rows
def none {H : Type} : Left H := { results := [], args := [] }

/-- 'zzlaws_root_b1.FnBareKeyIsBytewise': WHATEVER THE INPUT: true; the input reads as it did. -/
def fnBareKeyIsBytewiseSpec : ChangeSpec := { name := "fnBareKeyIsBytewise", fn := fun _ => fun
  | [d1, d2] => { results := [.lit (.bool true)], args := [d1, d2] }
  | _ => none }
def fnBareKeyIsBytewiseRow : OpenClaim := { program := "qxb6609146a", sum := "0c2d931264f88a82cebd3e47aaf160e28211770507e991e9c67cc0840e558f2f", func := "example.com/onceward/onceward/zzlaws_root_b1.FnBareKeyIsBytewise", spec := "fnBareKeyIsBytewise", apart := false }
def FnBareKeyIsBytewiseSaid : Prop := fnBareKeyIsBytewiseRow.holds Try.pinned (OpenSpec.ofChange fnBareKeyIsBytewiseSpec)

/-- ITS FALSE NEIGHBOUR: 'it returns false'. Refute it at one input. -/
def fnBareKeyIsBytewiseWrong : ChangeSpec := { name := "fnBareKeyIsBytewise", fn := fun _ => fun
  | [d1, d2] => { results := [.lit (.bool false)], args := [d1, d2] }
  | _ => none }
def FnBareKeyIsBytewiseWrongFalsely : Prop := fnBareKeyIsBytewiseRow.holds Try.pinned (OpenSpec.ofChange fnBareKeyIsBytewiseWrong)

/-- 'zzlaws_root_b1.FnBareKeyInsertion': WHATEVER THE INPUT: true; the input reads as it did. -/
def fnBareKeyInsertionSpec : ChangeSpec := { name := "fnBareKeyInsertion", fn := fun _ => fun
  | [d1, d2, d3] => { results := [.lit (.bool true)], args := [d1, d2, d3] }
  | _ => none }
def fnBareKeyInsertionRow : OpenClaim := { program := "qxb6609146a", sum := "0c2d931264f88a82cebd3e47aaf160e28211770507e991e9c67cc0840e558f2f", func := "example.com/onceward/onceward/zzlaws_root_b1.FnBareKeyInsertion", spec := "fnBareKeyInsertion", apart := false }
def FnBareKeyInsertionSaid : Prop := fnBareKeyInsertionRow.holds Try.pinned (OpenSpec.ofChange fnBareKeyInsertionSpec)

/-- ITS FALSE NEIGHBOUR: 'it returns false'. Refute it at one input. -/
def fnBareKeyInsertionWrong : ChangeSpec := { name := "fnBareKeyInsertion", fn := fun _ => fun
  | [d1, d2, d3] => { results := [.lit (.bool false)], args := [d1, d2, d3] }
  | _ => none }
def FnBareKeyInsertionWrongFalsely : Prop := fnBareKeyInsertionRow.holds Try.pinned (OpenSpec.ofChange fnBareKeyInsertionWrong)

end Rows
end Go.Proofs.Qxb6609146a
