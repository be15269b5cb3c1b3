/-
  DERIVED. GIVEN WITH THE SEED: THE CARDS: each row of YbulkbscFmtRows.lean that lists a variable, with what it lists TIED to the program's text (the seventh form; the later family's looks); each row that meets fmt, with fmt's text TOLD by the authors' own Lean function (tested against real Go, not proved from fmt's source: count such statements apart). THE CARD IS WHAT COUNTS. Prove the row's statement (the work); the ties are given (YbulkbscFmtTie.lean); close each card by the builder's one call (the guide's Derived/Test/ToyasCard.lean, 'card_holds'). Laid BY PROGRAM, IN A SANDBOX (cutbox-door.mjs). By AI agents, Wed Nov 11 2026. No macro, syntax, notation, axiom, sorry.
-/
import Derived.Test.YbulkbscFmtRows
import GoSem.ClaimSeven
namespace Go.Proofs.YbulkbscFmt
namespace Rows

/-- THE TOLD CARD OF 'engine.LawS0132BRoundTrip'. -/
def lawS0132BRoundTripCard : Claim7 := { stood := { row := lawS0132BRoundTripRow, standIns := [], harness := (true, "3d953f48581095c684787d1115c512fb245e83789d4f0786189ac62c977b3940"), looks := false }, told := true, goes := false }
def LawS0132BRoundTripToldSaid : Prop := Claim7.holds Ybaf.pinned (.plain (OpenSpec.ofChange lawS0132BRoundTripSpec)) lawS0132BRoundTripCard
/-- ITS FALSE NEIGHBOUR. Refute it at one input. -/
def LawS0132BRoundTripToldWrongFalsely : Prop := Claim7.holds Ybaf.pinned (.plain (OpenSpec.ofChange lawS0132BRoundTripWrong)) lawS0132BRoundTripCard

/-- THE TOLD CARD OF 'engine.LawS0132BGuard'. -/
def lawS0132BGuardCard : Claim7 := { stood := { row := lawS0132BGuardRow, standIns := [], harness := (true, "3d953f48581095c684787d1115c512fb245e83789d4f0786189ac62c977b3940"), looks := false }, told := true, goes := false }
def LawS0132BGuardToldSaid : Prop := Claim7.holds Ybaf.pinned (.plain (OpenSpec.ofChange lawS0132BGuardSpec)) lawS0132BGuardCard
/-- ITS FALSE NEIGHBOUR. Refute it at one input. -/
def LawS0132BGuardToldWrongFalsely : Prop := Claim7.holds Ybaf.pinned (.plain (OpenSpec.ofChange lawS0132BGuardWrong)) lawS0132BGuardCard
end Rows
end Go.Proofs.YbulkbscFmt
