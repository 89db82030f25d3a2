/-
  No cell of these rows narrows 'for every input' (looked for: loops, veiled, ifaces, maps, wideKeys, modest, calm, conditions, laid).
  DERIVED. THE GIVEN ROWS OF THIS SEAT. 2 by the template 'for every input the law returns true; each argument reads behind the call as it read before'; 0 by the template 'total and deterministic' (their statements: Qxb6631277aFmtTotals.lean).
  GIVEN WITH THE SEED: the statements are not yours to turn. If you find one false, say at which input.
  Laid BY PROGRAM, IN A SANDBOX (cutbox-rows.mjs): the forced cells as the released guide's own fill.sh prints them over the translation 52f463dd653e0521… (all of the seat's roots in one cut). By AI agents, Wed Nov 11 2026. No macro, syntax, notation, axiom, sorry.
-/
import Derived.Test.Qxb6631277aFmtChecked
import GoSem.Claim
import GoSem.ClaimJoined
import GoSem.ClaimMapViews
import Derived.JoinedTies
import Derived.KernelRfl
namespace Go.Proofs.Qxb6631277aFmt
/- THE CELL 'sum', in the pinned program and in every row, IS THE sha256 OF THE DUMP (.gsa) THAT Qxb6631277aFmtProg.lean LOADS. Nothing in Lean hashes anything: it is a label: what it is worth is what the hold of that sum in a sandbox is worth. -/
noncomputable def Tryf.pinned : Pinned := { name := "qxb6631277afmt", sum := "52f463dd653e0521e1568f1a123d2ad838466f6cc1c95abc535b86df7e902825", checked := Tryf.checked }
namespace Rows
def none {H : Type} : Left H := { results := [], args := [] }

/-- 'zzlaws_internal_wire_b1.FnNewLimiterPieceGrowsByOneEverySixtyFourBytes': WHATEVER THE INPUT: true; the input reads as it did. -/
def fnNewLimiterPieceGrowsByOneEverySixtyFourBytesSpec : ChangeSpec := { name := "fnNewLimiterPieceGrowsByOneEverySixtyFourBytes", fn := fun _ => fun
  | [d] => { results := [.lit (.bool true)], args := [d] }
  | _ => none }
def fnNewLimiterPieceGrowsByOneEverySixtyFourBytesRow : OpenClaim := { program := "qxb6631277afmt", sum := "52f463dd653e0521e1568f1a123d2ad838466f6cc1c95abc535b86df7e902825", func := "example.com/murmuration/murmuration/zzlaws_internal_wire_b1.FnNewLimiterPieceGrowsByOneEverySixtyFourBytes", spec := "fnNewLimiterPieceGrowsByOneEverySixtyFourBytes", stops := ["fmt.Sprintf"], inPlace := ["fmt.Sprintf"], apart := false }
/-- NO THEOREM (fmt's text is open here; it may be false): for the released tool's asking of the row's closed facts alone. THE STATEMENT IS 'FnNewLimiterPieceGrowsByOneEverySixtyFourBytesToldSaid' (Qxb6631277aFmtCards.lean). -/
def FnNewLimiterPieceGrowsByOneEverySixtyFourBytesFormAsk : Prop := fnNewLimiterPieceGrowsByOneEverySixtyFourBytesRow.holds Tryf.pinned (OpenSpec.ofChange fnNewLimiterPieceGrowsByOneEverySixtyFourBytesSpec)

/-- ITS FALSE NEIGHBOUR: 'it returns false'. Refute it at one input. -/
def fnNewLimiterPieceGrowsByOneEverySixtyFourBytesWrong : ChangeSpec := { name := "fnNewLimiterPieceGrowsByOneEverySixtyFourBytes", fn := fun _ => fun
  | [d] => { results := [.lit (.bool false)], args := [d] }
  | _ => none }
def FnNewLimiterPieceGrowsByOneEverySixtyFourBytesWrongFormAsk : Prop := fnNewLimiterPieceGrowsByOneEverySixtyFourBytesRow.holds Tryf.pinned (OpenSpec.ofChange fnNewLimiterPieceGrowsByOneEverySixtyFourBytesWrong)

/-- 'zzlaws_internal_wire_b1.FnNewLimiterPiecesOfASumCarry': WHATEVER THE INPUT: true; the input reads as it did. -/
def fnNewLimiterPiecesOfASumCarrySpec : ChangeSpec := { name := "fnNewLimiterPiecesOfASumCarry", fn := fun _ => fun
  | [d1, d2] => { results := [.lit (.bool true)], args := [d1, d2] }
  | _ => none }
def fnNewLimiterPiecesOfASumCarryRow : OpenClaim := { program := "qxb6631277afmt", sum := "52f463dd653e0521e1568f1a123d2ad838466f6cc1c95abc535b86df7e902825", func := "example.com/murmuration/murmuration/zzlaws_internal_wire_b1.FnNewLimiterPiecesOfASumCarry", spec := "fnNewLimiterPiecesOfASumCarry", stops := ["fmt.Sprintf"], inPlace := ["fmt.Sprintf"], apart := false }
/-- NO THEOREM (fmt's text is open here; it may be false): for the released tool's asking of the row's closed facts alone. THE STATEMENT IS 'FnNewLimiterPiecesOfASumCarryToldSaid' (Qxb6631277aFmtCards.lean). -/
def FnNewLimiterPiecesOfASumCarryFormAsk : Prop := fnNewLimiterPiecesOfASumCarryRow.holds Tryf.pinned (OpenSpec.ofChange fnNewLimiterPiecesOfASumCarrySpec)

/-- ITS FALSE NEIGHBOUR: 'it returns false'. Refute it at one input. -/
def fnNewLimiterPiecesOfASumCarryWrong : ChangeSpec := { name := "fnNewLimiterPiecesOfASumCarry", fn := fun _ => fun
  | [d1, d2] => { results := [.lit (.bool false)], args := [d1, d2] }
  | _ => none }
def FnNewLimiterPiecesOfASumCarryWrongFormAsk : Prop := fnNewLimiterPiecesOfASumCarryRow.holds Tryf.pinned (OpenSpec.ofChange fnNewLimiterPiecesOfASumCarryWrong)

end Rows
end Go.Proofs.Qxb6631277aFmt
