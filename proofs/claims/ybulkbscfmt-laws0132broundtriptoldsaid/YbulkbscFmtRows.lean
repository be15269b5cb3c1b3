/-
  No cell of these rows narrows 'for every input' (looked for: loops, veiled, ifaces, maps, wideKeys, modest, calm, conditions, laid).
  DERIVED. THE GIVEN ROWS OF THIS SEAT. 2 by the template 'for every input the law returns true; each argument reads behind the call as it read before'; 0 by the template 'total and deterministic' (their statements: YbulkbscFmtTotals.lean).
  GIVEN WITH THE SEED: the statements are not yours to turn. If you find one false, say at which input.
  Laid BY PROGRAM, IN A SANDBOX (cutbox-rows.mjs): the forced cells as the released guide's own fill.sh prints them over the translation acc8f45f4f3cef72… (all of the seat's roots in one cut). By AI agents, Wed Nov 11 2026. No macro, syntax, notation, axiom, sorry.
-/
import Derived.Test.YbulkbscFmtChecked
import GoSem.Claim
import GoSem.ClaimJoined
import GoSem.ClaimMapViews
import Derived.JoinedTies
import Derived.KernelRfl
namespace Go.Proofs.YbulkbscFmt
/- THE CELL 'sum', in the pinned program and in every row, IS THE sha256 OF THE DUMP (.gsa) THAT YbulkbscFmtProg.lean LOADS. Nothing in Lean hashes anything: it is a label: what it is worth is what the hold of that sum in a sandbox is worth. -/
noncomputable def Ybaf.pinned : Pinned := { name := "ybulkbscfmt", sum := "acc8f45f4f3cef721948e4370c7db30ca5ffbd4f9567a6b4f794c736914a72a7", checked := Ybaf.checked }
namespace Rows
def none {H : Type} : Left H := { results := [], args := [] }

/-- 'engine.LawS0132BRoundTrip': WHATEVER THE INPUT: true; the input reads as it did. -/
def lawS0132BRoundTripSpec : ChangeSpec := { name := "lawS0132BRoundTrip", fn := fun _ => fun
  | [d1, d2, d3] => { results := [.lit (.bool true)], args := [d1, d2, d3] }
  | _ => none }
def lawS0132BRoundTripRow : OpenClaim := { program := "ybulkbscfmt", sum := "acc8f45f4f3cef721948e4370c7db30ca5ffbd4f9567a6b4f794c736914a72a7", func := "example.com/viewmesh/viewmesh/pkg/engine.LawS0132BRoundTrip", spec := "lawS0132BRoundTrip", stops := ["fmt.Sprintf, its operands' methods called", "fmt.errorf"], inPlace := ["fmt.Sprintf", "fmt.errorf"], unfollowed := true, recurses := true, named := ["encoding/binary.BigEndian"], apart := false }
/-- NO THEOREM (fmt's text is open here; it may be false): for the released tool's asking of the row's closed facts alone. THE STATEMENT IS 'LawS0132BRoundTripToldSaid' (YbulkbscFmtCards.lean). -/
def LawS0132BRoundTripFormAsk : Prop := lawS0132BRoundTripRow.holds Ybaf.pinned (OpenSpec.ofChange lawS0132BRoundTripSpec)

/-- ITS FALSE NEIGHBOUR: 'it returns false'. Refute it at one input. -/
def lawS0132BRoundTripWrong : ChangeSpec := { name := "lawS0132BRoundTrip", fn := fun _ => fun
  | [d1, d2, d3] => { results := [.lit (.bool false)], args := [d1, d2, d3] }
  | _ => none }
def LawS0132BRoundTripWrongFormAsk : Prop := lawS0132BRoundTripRow.holds Ybaf.pinned (OpenSpec.ofChange lawS0132BRoundTripWrong)

/-- 'engine.LawS0132BGuard': WHATEVER THE INPUT: true; the input reads as it did. -/
def lawS0132BGuardSpec : ChangeSpec := { name := "lawS0132BGuard", fn := fun _ => fun
  | [d] => { results := [.lit (.bool true)], args := [d] }
  | _ => none }
def lawS0132BGuardRow : OpenClaim := { program := "ybulkbscfmt", sum := "acc8f45f4f3cef721948e4370c7db30ca5ffbd4f9567a6b4f794c736914a72a7", func := "example.com/viewmesh/viewmesh/pkg/engine.LawS0132BGuard", spec := "lawS0132BGuard", stops := ["fmt.Sprintf, its operands' methods called", "fmt.errorf"], inPlace := ["fmt.Sprintf", "fmt.errorf"], unfollowed := true, recurses := true, named := ["encoding/binary.BigEndian"], apart := false }
/-- NO THEOREM (fmt's text is open here; it may be false): for the released tool's asking of the row's closed facts alone. THE STATEMENT IS 'LawS0132BGuardToldSaid' (YbulkbscFmtCards.lean). -/
def LawS0132BGuardFormAsk : Prop := lawS0132BGuardRow.holds Ybaf.pinned (OpenSpec.ofChange lawS0132BGuardSpec)

/-- ITS FALSE NEIGHBOUR: 'it returns false'. Refute it at one input. -/
def lawS0132BGuardWrong : ChangeSpec := { name := "lawS0132BGuard", fn := fun _ => fun
  | [d] => { results := [.lit (.bool false)], args := [d] }
  | _ => none }
def LawS0132BGuardWrongFormAsk : Prop := lawS0132BGuardRow.holds Ybaf.pinned (OpenSpec.ofChange lawS0132BGuardWrong)

end Rows
end Go.Proofs.YbulkbscFmt
