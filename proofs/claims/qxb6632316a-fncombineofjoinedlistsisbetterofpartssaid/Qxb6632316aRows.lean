/-
  No cell of these rows narrows 'for every input' (looked for: loops, veiled, ifaces, maps, wideKeys, modest, calm, conditions, laid).
  DERIVED. THE GIVEN ROWS OF THIS SEAT. 2 by the template 'for every input the law returns true; each argument reads behind the call as it read before'; 0 by the template 'total and deterministic' (their statements: Qxb6632316aTotals.lean).
  GIVEN WITH THE SEED: the statements are not yours to turn. If you find one false, say at which input.
  Laid BY PROGRAM, IN A SANDBOX (cutbox-rows.mjs): the forced cells as the released guide's own fill.sh prints them over the translation c016b1bdca5363ca… (all of the seat's roots in one cut). By AI agents, Wed Nov 11 2026. No macro, syntax, notation, axiom, sorry.
-/
import Derived.Test.Qxb6632316aChecked
import GoSem.Claim
import GoSem.ClaimJoined
import GoSem.ClaimMapViews
import Derived.JoinedTies
import Derived.KernelRfl
namespace Go.Proofs.Qxb6632316a
/- THE CELL 'sum', in the pinned program and in every row, IS THE sha256 OF THE DUMP (.gsa) THAT Qxb6632316aProg.lean LOADS. Nothing in Lean hashes anything: it is a label: what it is worth is what the hold of that sum in a sandbox is worth. -/
noncomputable def Try.pinned : Pinned := { name := "qxb6632316a", sum := "c016b1bdca5363ca6a9748c325b9d985b711500522e61106a8431c66e7081a2d", checked := Try.checked }
namespace Rows
def none {H : Type} : Left H := { results := [], args := [] }

/-- 'zzlaws_pkg_policy_b1.FnCombineMatchesStagedSelection': WHATEVER THE INPUT: true; the input reads as it did. -/
def fnCombineMatchesStagedSelectionSpec : ChangeSpec := { name := "fnCombineMatchesStagedSelection", fn := fun _ => fun
  | [d] => { results := [.lit (.bool true)], args := [d] }
  | _ => none }
def fnCombineMatchesStagedSelectionRow : OpenClaim := { program := "qxb6632316a", sum := "c016b1bdca5363ca6a9748c325b9d985b711500522e61106a8431c66e7081a2d", func := "example.com/mild-manners/mild-manners/zzlaws_pkg_policy_b1.FnCombineMatchesStagedSelection", spec := "fnCombineMatchesStagedSelection", apart := false }
def FnCombineMatchesStagedSelectionSaid : Prop := fnCombineMatchesStagedSelectionRow.holds Try.pinned (OpenSpec.ofChange fnCombineMatchesStagedSelectionSpec)

/-- ITS FALSE NEIGHBOUR: 'it returns false'. Refute it at one input. -/
def fnCombineMatchesStagedSelectionWrong : ChangeSpec := { name := "fnCombineMatchesStagedSelection", fn := fun _ => fun
  | [d] => { results := [.lit (.bool false)], args := [d] }
  | _ => none }
def FnCombineMatchesStagedSelectionWrongFalsely : Prop := fnCombineMatchesStagedSelectionRow.holds Try.pinned (OpenSpec.ofChange fnCombineMatchesStagedSelectionWrong)

/-- 'zzlaws_pkg_policy_b1.FnCombineOfJoinedListsIsBetterOfParts': WHATEVER THE INPUT: true; the input reads as it did. -/
def fnCombineOfJoinedListsIsBetterOfPartsSpec : ChangeSpec := { name := "fnCombineOfJoinedListsIsBetterOfParts", fn := fun _ => fun
  | [d1, d2] => { results := [.lit (.bool true)], args := [d1, d2] }
  | _ => none }
def fnCombineOfJoinedListsIsBetterOfPartsRow : OpenClaim := { program := "qxb6632316a", sum := "c016b1bdca5363ca6a9748c325b9d985b711500522e61106a8431c66e7081a2d", func := "example.com/mild-manners/mild-manners/zzlaws_pkg_policy_b1.FnCombineOfJoinedListsIsBetterOfParts", spec := "fnCombineOfJoinedListsIsBetterOfParts", apart := false }
def FnCombineOfJoinedListsIsBetterOfPartsSaid : Prop := fnCombineOfJoinedListsIsBetterOfPartsRow.holds Try.pinned (OpenSpec.ofChange fnCombineOfJoinedListsIsBetterOfPartsSpec)

/-- ITS FALSE NEIGHBOUR: 'it returns false'. Refute it at one input. -/
def fnCombineOfJoinedListsIsBetterOfPartsWrong : ChangeSpec := { name := "fnCombineOfJoinedListsIsBetterOfParts", fn := fun _ => fun
  | [d1, d2] => { results := [.lit (.bool false)], args := [d1, d2] }
  | _ => none }
def FnCombineOfJoinedListsIsBetterOfPartsWrongFalsely : Prop := fnCombineOfJoinedListsIsBetterOfPartsRow.holds Try.pinned (OpenSpec.ofChange fnCombineOfJoinedListsIsBetterOfPartsWrong)

end Rows
end Go.Proofs.Qxb6632316a
