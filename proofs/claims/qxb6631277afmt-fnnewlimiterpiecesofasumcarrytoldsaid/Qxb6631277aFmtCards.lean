/-
  DERIVED. GIVEN WITH THE SEED: THE CARDS: each row of Qxb6631277aFmtRows.lean that lists a variable, with what it lists TIED to the program's text (the seventh form; the later family's looks); each row that meets fmt, with fmt's text TOLD by the authors' own Lean function (tested against real Go, not proved from fmt's source: count such statements apart). THE CARD IS WHAT COUNTS. Prove the row's statement (the work); the ties are given (Qxb6631277aFmtTie.lean); close each card by the builder's one call (the guide's Derived/Test/ToyasCard.lean, 'card_holds'). Laid BY PROGRAM, IN A SANDBOX (cutbox-door.mjs). By AI agents, Wed Nov 11 2026. No macro, syntax, notation, axiom, sorry.
-/
import Derived.Test.Qxb6631277aFmtRows
import GoSem.ClaimSeven
namespace Go.Proofs.Qxb6631277aFmt
namespace Rows

/-- THE TOLD CARD OF 'zzlaws_internal_wire_b1.FnNewLimiterPieceGrowsByOneEverySixtyFourBytes'. -/
def fnNewLimiterPieceGrowsByOneEverySixtyFourBytesCard : Claim7 := { stood := { row := fnNewLimiterPieceGrowsByOneEverySixtyFourBytesRow, standIns := [], harness := (true, "87bf413dc6f486cbad8e4a660690e1aa3d84069c5fb9a964855a3ebfef0de4c3"), looks := false }, told := true, goes := false }
def FnNewLimiterPieceGrowsByOneEverySixtyFourBytesToldSaid : Prop := Claim7.holds Tryf.pinned (.plain (OpenSpec.ofChange fnNewLimiterPieceGrowsByOneEverySixtyFourBytesSpec)) fnNewLimiterPieceGrowsByOneEverySixtyFourBytesCard
/-- ITS FALSE NEIGHBOUR. Refute it at one input. -/
def FnNewLimiterPieceGrowsByOneEverySixtyFourBytesToldWrongFalsely : Prop := Claim7.holds Tryf.pinned (.plain (OpenSpec.ofChange fnNewLimiterPieceGrowsByOneEverySixtyFourBytesWrong)) fnNewLimiterPieceGrowsByOneEverySixtyFourBytesCard

/-- THE TOLD CARD OF 'zzlaws_internal_wire_b1.FnNewLimiterPiecesOfASumCarry'. -/
def fnNewLimiterPiecesOfASumCarryCard : Claim7 := { stood := { row := fnNewLimiterPiecesOfASumCarryRow, standIns := [], harness := (true, "87bf413dc6f486cbad8e4a660690e1aa3d84069c5fb9a964855a3ebfef0de4c3"), looks := false }, told := true, goes := false }
def FnNewLimiterPiecesOfASumCarryToldSaid : Prop := Claim7.holds Tryf.pinned (.plain (OpenSpec.ofChange fnNewLimiterPiecesOfASumCarrySpec)) fnNewLimiterPiecesOfASumCarryCard
/-- ITS FALSE NEIGHBOUR. Refute it at one input. -/
def FnNewLimiterPiecesOfASumCarryToldWrongFalsely : Prop := Claim7.holds Tryf.pinned (.plain (OpenSpec.ofChange fnNewLimiterPiecesOfASumCarryWrong)) fnNewLimiterPiecesOfASumCarryCard
end Rows
end Go.Proofs.Qxb6631277aFmt
