/-
  DERIVED. GIVEN WITH THE SEED: THE CARDS: each row of YbulkbqmFmtRows.lean that lists a variable, with what it lists TIED to the program's text (the seventh form; the later family's looks); each row that meets fmt, with fmt's text TOLD by the authors' own Lean function (tested against real Go, not proved from fmt's source: count such statements apart). THE CARD IS WHAT COUNTS. Prove the row's statement (the work); the ties are given (YbulkbqmFmtTie.lean); close each card by the builder's one call (the guide's Derived/Test/ToyasCard.lean, 'card_holds'). Laid BY PROGRAM, IN A SANDBOX (cutbox-door.mjs). By AI agents, Wed Nov 11 2026. No macro, syntax, notation, axiom, sorry.
-/
import Derived.Test.YbulkbqmFmtRows
import GoSem.ClaimSeven
namespace Go.Proofs.YbulkbqmFmt
namespace Rows

/-- THE TOLD CARD OF 'causaline.LawS0129ANilIff'. -/
def lawS0129ANilIffCard : Claim7 := { stood := { row := lawS0129ANilIffRow, standIns := [], harness := (true, "e3449f9b9dd7b089992b135a84a4dded66ad82d3e8b9c99d929632471127c385"), looks := false }, told := true, goes := false }
def LawS0129ANilIffToldSaid : Prop := Claim7.holds Ybaf.pinned (.plain (OpenSpec.ofChange lawS0129ANilIffSpec)) lawS0129ANilIffCard
/-- ITS FALSE NEIGHBOUR. Refute it at one input. -/
def LawS0129ANilIffToldWrongFalsely : Prop := Claim7.holds Ybaf.pinned (.plain (OpenSpec.ofChange lawS0129ANilIffWrong)) lawS0129ANilIffCard

/-- THE TOLD CARD OF 'causaline.LawS0129AMarked'. -/
def lawS0129AMarkedCard : Claim7 := { stood := { row := lawS0129AMarkedRow, standIns := [], harness := (true, "e3449f9b9dd7b089992b135a84a4dded66ad82d3e8b9c99d929632471127c385"), looks := false }, told := true, goes := false }
def LawS0129AMarkedToldSaid : Prop := Claim7.holds Ybaf.pinned (.plain (OpenSpec.ofChange lawS0129AMarkedSpec)) lawS0129AMarkedCard
/-- ITS FALSE NEIGHBOUR. Refute it at one input. -/
def LawS0129AMarkedToldWrongFalsely : Prop := Claim7.holds Ybaf.pinned (.plain (OpenSpec.ofChange lawS0129AMarkedWrong)) lawS0129AMarkedCard
end Rows
end Go.Proofs.YbulkbqmFmt
