/-
  No cell of these rows narrows 'for every input' (looked for: loops, veiled, ifaces, maps, wideKeys, modest, calm, conditions, laid).
  DERIVED. THE GIVEN ROWS OF THIS SEAT. 2 by the template 'for every input the law returns true; each argument reads behind the call as it read before'; 0 by the template 'total and deterministic' (their statements: Qxb6632216aTotals.lean).
  GIVEN WITH THE SEED: the statements are not yours to turn. If you find one false, say at which input.
  Laid BY PROGRAM, IN A SANDBOX (cutbox-rows.mjs): the forced cells as the released guide's own fill.sh prints them over the translation 747e190b12bd75a5… (all of the seat's roots in one cut). By AI agents, Wed Nov 11 2026. No macro, syntax, notation, axiom, sorry.
-/
import Derived.Test.Qxb6632216aChecked
import GoSem.Claim
import GoSem.ClaimJoined
import GoSem.ClaimMapViews
import Derived.JoinedTies
import Derived.KernelRfl
namespace Go.Proofs.Qxb6632216a
/- THE CELL 'sum', in the pinned program and in every row, IS THE sha256 OF THE DUMP (.gsa) THAT Qxb6632216aProg.lean LOADS. Nothing in Lean hashes anything: it is a label: what it is worth is what the hold of that sum in a sandbox is worth. -/
noncomputable def Try.pinned : Pinned := { name := "qxb6632216a", sum := "747e190b12bd75a529b69b8ff519ae2de665708c2d55ea65054fcdc6493da055", checked := Try.checked }
namespace Rows
def none {H : Type} : Left H := { results := [], args := [] }

/-- 'zzlaws_internal_ring_b1.FnStringParsesBackToID': WHATEVER THE INPUT: true; the input reads as it did. -/
def fnStringParsesBackToIDSpec : ChangeSpec := { name := "fnStringParsesBackToID", fn := fun _ => fun
  | [d1, d2, d3] => { results := [.lit (.bool true)], args := [d1, d2, d3] }
  | _ => none }
def fnStringParsesBackToIDRow : OpenClaim := { program := "qxb6632216a", sum := "747e190b12bd75a529b69b8ff519ae2de665708c2d55ea65054fcdc6493da055", func := "example.com/ringwright/ringwright/zzlaws_internal_ring_b1.FnStringParsesBackToID", spec := "fnStringParsesBackToID", named := ["math/bits.divideError", "math/bits.overflowError"], apart := false }
def FnStringParsesBackToIDSaid : Prop := fnStringParsesBackToIDRow.holds Try.pinned (OpenSpec.ofChange fnStringParsesBackToIDSpec)

/-- ITS FALSE NEIGHBOUR: 'it returns false'. Refute it at one input. -/
def fnStringParsesBackToIDWrong : ChangeSpec := { name := "fnStringParsesBackToID", fn := fun _ => fun
  | [d1, d2, d3] => { results := [.lit (.bool false)], args := [d1, d2, d3] }
  | _ => none }
def FnStringParsesBackToIDWrongFalsely : Prop := fnStringParsesBackToIDRow.holds Try.pinned (OpenSpec.ofChange fnStringParsesBackToIDWrong)

/-- 'zzlaws_internal_ring_b1.FnStringAppendsDigit': WHATEVER THE INPUT: true; the input reads as it did. -/
def fnStringAppendsDigitSpec : ChangeSpec := { name := "fnStringAppendsDigit", fn := fun _ => fun
  | [d1, d2, d3, d4] => { results := [.lit (.bool true)], args := [d1, d2, d3, d4] }
  | _ => none }
def fnStringAppendsDigitRow : OpenClaim := { program := "qxb6632216a", sum := "747e190b12bd75a529b69b8ff519ae2de665708c2d55ea65054fcdc6493da055", func := "example.com/ringwright/ringwright/zzlaws_internal_ring_b1.FnStringAppendsDigit", spec := "fnStringAppendsDigit", named := ["math/bits.divideError", "math/bits.overflowError"], apart := false }
def FnStringAppendsDigitSaid : Prop := fnStringAppendsDigitRow.holds Try.pinned (OpenSpec.ofChange fnStringAppendsDigitSpec)

/-- ITS FALSE NEIGHBOUR: 'it returns false'. Refute it at one input. -/
def fnStringAppendsDigitWrong : ChangeSpec := { name := "fnStringAppendsDigit", fn := fun _ => fun
  | [d1, d2, d3, d4] => { results := [.lit (.bool false)], args := [d1, d2, d3, d4] }
  | _ => none }
def FnStringAppendsDigitWrongFalsely : Prop := fnStringAppendsDigitRow.holds Try.pinned (OpenSpec.ofChange fnStringAppendsDigitWrong)

end Rows
end Go.Proofs.Qxb6632216a
