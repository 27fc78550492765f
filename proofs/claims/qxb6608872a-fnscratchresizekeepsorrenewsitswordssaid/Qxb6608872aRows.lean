/-
  No cell of these rows narrows 'for every input' (looked for: loops, veiled, ifaces, maps, wideKeys, modest, calm, conditions, laid).
  DERIVED. THE GIVEN ROWS OF THIS SEAT. 2 by the template 'for every input the law returns true; each argument reads behind the call as it read before'; 0 by the template 'total and deterministic' (their statements: Qxb6608872aTotals.lean).
  GIVEN WITH THE SEED: the statements are not yours to turn. If you find one false, say at which input.
  Laid BY PROGRAM, IN A SANDBOX (cutbox-rows.mjs): the forced cells as the released guide's own fill.sh prints them over the translation 0480a3c797d111b5… (all of the seat's roots in one cut). By AI agents, Wed Nov 11 2026. No macro, syntax, notation, axiom, sorry.
-/
import Derived.Test.Qxb6608872aChecked
import GoSem.Claim
import GoSem.ClaimJoined
import GoSem.ClaimMapViews
import Derived.JoinedTies
import Derived.KernelRfl
namespace Go.Proofs.Qxb6608872a
/- THE CELL 'sum', in the pinned program and in every row, IS THE sha256 OF THE DUMP (.gsa) THAT Qxb6608872aProg.lean LOADS. Nothing in Lean hashes anything: it is a label: what it is worth is what the hold of that sum in a sandbox is worth. -/
noncomputable def Try.pinned : Pinned := { name := "qxb6608872a", sum := "0480a3c797d111b5da6d8d1dd14812f0c99a634331363b4cbe3d11e59b02aca4", checked := Try.checked }
namespace Rows
def none {H : Type} : Left H := { results := [], args := [] }

/-- 'zzlaws_root_b1.FnScratchSizeGivesSevenSeparateNumbers': WHATEVER THE INPUT: true; the input reads as it did. -/
def fnScratchSizeGivesSevenSeparateNumbersSpec : ChangeSpec := { name := "fnScratchSizeGivesSevenSeparateNumbers", fn := fun _ => fun
  | [d1, d2] => { results := [.lit (.bool true)], args := [d1, d2] }
  | _ => none }
def fnScratchSizeGivesSevenSeparateNumbersRow : OpenClaim := { program := "qxb6608872a", sum := "0480a3c797d111b5da6d8d1dd14812f0c99a634331363b4cbe3d11e59b02aca4", func := "example.com/yieldsmith/yieldsmith/zzlaws_root_b1.FnScratchSizeGivesSevenSeparateNumbers", spec := "fnScratchSizeGivesSevenSeparateNumbers", unfollowed := true, recurses := true, apart := false }
def FnScratchSizeGivesSevenSeparateNumbersSaid : Prop := fnScratchSizeGivesSevenSeparateNumbersRow.holds Try.pinned (OpenSpec.ofChange fnScratchSizeGivesSevenSeparateNumbersSpec)

/-- ITS FALSE NEIGHBOUR: 'it returns false'. Refute it at one input. -/
def fnScratchSizeGivesSevenSeparateNumbersWrong : ChangeSpec := { name := "fnScratchSizeGivesSevenSeparateNumbers", fn := fun _ => fun
  | [d1, d2] => { results := [.lit (.bool false)], args := [d1, d2] }
  | _ => none }
def FnScratchSizeGivesSevenSeparateNumbersWrongFalsely : Prop := fnScratchSizeGivesSevenSeparateNumbersRow.holds Try.pinned (OpenSpec.ofChange fnScratchSizeGivesSevenSeparateNumbersWrong)

/-- 'zzlaws_root_b1.FnScratchResizeKeepsOrRenewsItsWords': WHATEVER THE INPUT: true; the input reads as it did. -/
def fnScratchResizeKeepsOrRenewsItsWordsSpec : ChangeSpec := { name := "fnScratchResizeKeepsOrRenewsItsWords", fn := fun _ => fun
  | [d1, d2] => { results := [.lit (.bool true)], args := [d1, d2] }
  | _ => none }
def fnScratchResizeKeepsOrRenewsItsWordsRow : OpenClaim := { program := "qxb6608872a", sum := "0480a3c797d111b5da6d8d1dd14812f0c99a634331363b4cbe3d11e59b02aca4", func := "example.com/yieldsmith/yieldsmith/zzlaws_root_b1.FnScratchResizeKeepsOrRenewsItsWords", spec := "fnScratchResizeKeepsOrRenewsItsWords", unfollowed := true, recurses := true, apart := false }
def FnScratchResizeKeepsOrRenewsItsWordsSaid : Prop := fnScratchResizeKeepsOrRenewsItsWordsRow.holds Try.pinned (OpenSpec.ofChange fnScratchResizeKeepsOrRenewsItsWordsSpec)

/-- ITS FALSE NEIGHBOUR: 'it returns false'. Refute it at one input. -/
def fnScratchResizeKeepsOrRenewsItsWordsWrong : ChangeSpec := { name := "fnScratchResizeKeepsOrRenewsItsWords", fn := fun _ => fun
  | [d1, d2] => { results := [.lit (.bool false)], args := [d1, d2] }
  | _ => none }
def FnScratchResizeKeepsOrRenewsItsWordsWrongFalsely : Prop := fnScratchResizeKeepsOrRenewsItsWordsRow.holds Try.pinned (OpenSpec.ofChange fnScratchResizeKeepsOrRenewsItsWordsWrong)

end Rows
end Go.Proofs.Qxb6608872a
