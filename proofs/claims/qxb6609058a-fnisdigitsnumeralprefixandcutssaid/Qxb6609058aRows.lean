/-
  No cell of these rows narrows 'for every input' (looked for: loops, veiled, ifaces, maps, wideKeys, modest, calm, conditions, laid).
  DERIVED. THE GIVEN ROWS OF THIS SEAT. 2 by the template 'for every input the law returns true; each argument reads behind the call as it read before'; 0 by the template 'total and deterministic' (their statements: Qxb6609058aTotals.lean).
  GIVEN WITH THE SEED: the statements are not yours to turn. If you find one false, say at which input.
  Laid BY PROGRAM, IN A SANDBOX (cutbox-rows.mjs): the forced cells as the released guide's own fill.sh prints them over the translation a2fac38878754bbd… (all of the seat's roots in one cut). By AI agents, Wed Nov 11 2026. No macro, syntax, notation, axiom, sorry.
-/
import Derived.Test.Qxb6609058aChecked
import GoSem.Claim
import GoSem.ClaimJoined
import GoSem.ClaimMapViews
import Derived.JoinedTies
import Derived.KernelRfl
namespace Go.Proofs.Qxb6609058a
/- THE CELL 'sum', in the pinned program and in every row, IS THE sha256 OF THE DUMP (.gsa) THAT Qxb6609058aProg.lean LOADS. Nothing in Lean hashes anything: it is a label: what it is worth is what the hold of that sum in a sandbox is worth. -/
noncomputable def Try.pinned : Pinned := { name := "qxb6609058a", sum := "a2fac38878754bbd0e767fd8afcbfa02d06b587e48a5c49c9d62b658226c26e6", checked := Try.checked }
namespace Rows
def none {H : Type} : Left H := { results := [], args := [] }

/-- 'zzlaws_internal_mgcp_b1.FnIsDigitsInsertOneByte': WHATEVER THE INPUT: true; the input reads as it did. -/
def fnIsDigitsInsertOneByteSpec : ChangeSpec := { name := "fnIsDigitsInsertOneByte", fn := fun _ => fun
  | [d1, d2, d3] => { results := [.lit (.bool true)], args := [d1, d2, d3] }
  | _ => none }
def fnIsDigitsInsertOneByteRow : OpenClaim := { program := "qxb6609058a", sum := "a2fac38878754bbd0e767fd8afcbfa02d06b587e48a5c49c9d62b658226c26e6", func := "example.com/gatewarden/gatewarden/zzlaws_internal_mgcp_b1.FnIsDigitsInsertOneByte", spec := "fnIsDigitsInsertOneByte", apart := false }
def FnIsDigitsInsertOneByteSaid : Prop := fnIsDigitsInsertOneByteRow.holds Try.pinned (OpenSpec.ofChange fnIsDigitsInsertOneByteSpec)

/-- ITS FALSE NEIGHBOUR: 'it returns false'. Refute it at one input. -/
def fnIsDigitsInsertOneByteWrong : ChangeSpec := { name := "fnIsDigitsInsertOneByte", fn := fun _ => fun
  | [d1, d2, d3] => { results := [.lit (.bool false)], args := [d1, d2, d3] }
  | _ => none }
def FnIsDigitsInsertOneByteWrongFalsely : Prop := fnIsDigitsInsertOneByteRow.holds Try.pinned (OpenSpec.ofChange fnIsDigitsInsertOneByteWrong)

/-- 'zzlaws_internal_mgcp_b1.FnIsDigitsNumeralPrefixAndCuts': WHATEVER THE INPUT: true; the input reads as it did. -/
def fnIsDigitsNumeralPrefixAndCutsSpec : ChangeSpec := { name := "fnIsDigitsNumeralPrefixAndCuts", fn := fun _ => fun
  | [d1, d2, d3] => { results := [.lit (.bool true)], args := [d1, d2, d3] }
  | _ => none }
def fnIsDigitsNumeralPrefixAndCutsRow : OpenClaim := { program := "qxb6609058a", sum := "a2fac38878754bbd0e767fd8afcbfa02d06b587e48a5c49c9d62b658226c26e6", func := "example.com/gatewarden/gatewarden/zzlaws_internal_mgcp_b1.FnIsDigitsNumeralPrefixAndCuts", spec := "fnIsDigitsNumeralPrefixAndCuts", apart := false }
def FnIsDigitsNumeralPrefixAndCutsSaid : Prop := fnIsDigitsNumeralPrefixAndCutsRow.holds Try.pinned (OpenSpec.ofChange fnIsDigitsNumeralPrefixAndCutsSpec)

/-- ITS FALSE NEIGHBOUR: 'it returns false'. Refute it at one input. -/
def fnIsDigitsNumeralPrefixAndCutsWrong : ChangeSpec := { name := "fnIsDigitsNumeralPrefixAndCuts", fn := fun _ => fun
  | [d1, d2, d3] => { results := [.lit (.bool false)], args := [d1, d2, d3] }
  | _ => none }
def FnIsDigitsNumeralPrefixAndCutsWrongFalsely : Prop := fnIsDigitsNumeralPrefixAndCutsRow.holds Try.pinned (OpenSpec.ofChange fnIsDigitsNumeralPrefixAndCutsWrong)

end Rows
end Go.Proofs.Qxb6609058a
