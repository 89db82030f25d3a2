/-
  No cell of these rows narrows 'for every input' (looked for: loops, veiled, ifaces, maps, wideKeys, modest, calm, conditions, laid).
  DERIVED. THE GIVEN ROWS OF THIS SEAT. 2 by the template 'for every input the law returns true; each argument reads behind the call as it read before'; 0 by the template 'total and deterministic' (their statements: Qxb6632266aTotals.lean).
  GIVEN WITH THE SEED: the statements are not yours to turn. If you find one false, say at which input.
  Laid BY PROGRAM, IN A SANDBOX (cutbox-rows.mjs): the forced cells as the released guide's own fill.sh prints them over the translation 1eeb81a7d56937df… (all of the seat's roots in one cut). By AI agents, Wed Nov 11 2026. No macro, syntax, notation, axiom, sorry.
-/
import Derived.Test.Qxb6632266aChecked
import GoSem.Claim
import GoSem.ClaimJoined
import GoSem.ClaimMapViews
import Derived.JoinedTies
import Derived.KernelRfl
namespace Go.Proofs.Qxb6632266a
/- THE CELL 'sum', in the pinned program and in every row, IS THE sha256 OF THE DUMP (.gsa) THAT Qxb6632266aProg.lean LOADS. Nothing in Lean hashes anything: it is a label: what it is worth is what the hold of that sum in a sandbox is worth. -/
noncomputable def Try.pinned : Pinned := { name := "qxb6632266a", sum := "1eeb81a7d56937df9cbd070a9aedac92eb75c55cdbb56d60d64e8190254ab116", checked := Try.checked }
namespace Rows
def none {H : Type} : Left H := { results := [], args := [] }

/-- 'zzlaws_internal_sdp_b1.FnFirstMediaJoinAndLeast': WHATEVER THE INPUT: true; the input reads as it did. -/
def fnFirstMediaJoinAndLeastSpec : ChangeSpec := { name := "fnFirstMediaJoinAndLeast", fn := fun _ => fun
  | [d1, d2, d3] => { results := [.lit (.bool true)], args := [d1, d2, d3] }
  | _ => none }
def fnFirstMediaJoinAndLeastRow : OpenClaim := { program := "qxb6632266a", sum := "1eeb81a7d56937df9cbd070a9aedac92eb75c55cdbb56d60d64e8190254ab116", func := "example.com/precondia/precondia/zzlaws_internal_sdp_b1.FnFirstMediaJoinAndLeast", spec := "fnFirstMediaJoinAndLeast", apart := false }
def FnFirstMediaJoinAndLeastSaid : Prop := fnFirstMediaJoinAndLeastRow.holds Try.pinned (OpenSpec.ofChange fnFirstMediaJoinAndLeastSpec)

/-- ITS FALSE NEIGHBOUR: 'it returns false'. Refute it at one input. -/
def fnFirstMediaJoinAndLeastWrong : ChangeSpec := { name := "fnFirstMediaJoinAndLeast", fn := fun _ => fun
  | [d1, d2, d3] => { results := [.lit (.bool false)], args := [d1, d2, d3] }
  | _ => none }
def FnFirstMediaJoinAndLeastWrongFalsely : Prop := fnFirstMediaJoinAndLeastRow.holds Try.pinned (OpenSpec.ofChange fnFirstMediaJoinAndLeastWrong)

/-- 'zzlaws_internal_sdp_b1.FnFirstMediaInsertAnywhere': WHATEVER THE INPUT: true; the input reads as it did. -/
def fnFirstMediaInsertAnywhereSpec : ChangeSpec := { name := "fnFirstMediaInsertAnywhere", fn := fun _ => fun
  | [d1, d2, d3, d4] => { results := [.lit (.bool true)], args := [d1, d2, d3, d4] }
  | _ => none }
def fnFirstMediaInsertAnywhereRow : OpenClaim := { program := "qxb6632266a", sum := "1eeb81a7d56937df9cbd070a9aedac92eb75c55cdbb56d60d64e8190254ab116", func := "example.com/precondia/precondia/zzlaws_internal_sdp_b1.FnFirstMediaInsertAnywhere", spec := "fnFirstMediaInsertAnywhere", apart := false }
def FnFirstMediaInsertAnywhereSaid : Prop := fnFirstMediaInsertAnywhereRow.holds Try.pinned (OpenSpec.ofChange fnFirstMediaInsertAnywhereSpec)

/-- ITS FALSE NEIGHBOUR: 'it returns false'. Refute it at one input. -/
def fnFirstMediaInsertAnywhereWrong : ChangeSpec := { name := "fnFirstMediaInsertAnywhere", fn := fun _ => fun
  | [d1, d2, d3, d4] => { results := [.lit (.bool false)], args := [d1, d2, d3, d4] }
  | _ => none }
def FnFirstMediaInsertAnywhereWrongFalsely : Prop := fnFirstMediaInsertAnywhereRow.holds Try.pinned (OpenSpec.ofChange fnFirstMediaInsertAnywhereWrong)

end Rows
end Go.Proofs.Qxb6632266a
