/-
  No cell of these rows narrows 'for every input' (looked for: loops, veiled, ifaces, maps, wideKeys, modest, calm, conditions, laid).
  DERIVED. THE GIVEN ROWS OF THIS SEAT. 2 by the template 'for every input the law returns true; each argument reads behind the call as it read before'; 0 by the template 'total and deterministic' (their statements: YbulkbqmFmtTotals.lean).
  GIVEN WITH THE SEED: the statements are not yours to turn. If you find one false, say at which input.
  Laid BY PROGRAM, IN A SANDBOX (cutbox-rows.mjs): the forced cells as the released guide's own fill.sh prints them over the translation e28c5e6a65f6eeef… (all of the seat's roots in one cut). By AI agents, Wed Nov 11 2026. No macro, syntax, notation, axiom, sorry.
-/
import Derived.Test.YbulkbqmFmtChecked
import GoSem.Claim
import GoSem.ClaimJoined
import GoSem.ClaimMapViews
import Derived.JoinedTies
import Derived.KernelRfl
namespace Go.Proofs.YbulkbqmFmt
/- THE CELL 'sum', in the pinned program and in every row, IS THE sha256 OF THE DUMP (.gsa) THAT YbulkbqmFmtProg.lean LOADS. Nothing in Lean hashes anything: it is a label: what it is worth is what the hold of that sum in a sandbox is worth. -/
noncomputable def Ybaf.pinned : Pinned := { name := "ybulkbqmfmt", sum := "e28c5e6a65f6eeef4fa77254a577bb4a3413e056cf3bf07b9e46adea2ff6346f", checked := Ybaf.checked }
namespace Rows
def none {H : Type} : Left H := { results := [], args := [] }

/-- 'causaline.LawS0129ANilIff': WHATEVER THE INPUT: true; the input reads as it did. -/
def lawS0129ANilIffSpec : ChangeSpec := { name := "lawS0129ANilIff", fn := fun _ => fun
  | [d1, d2, d3] => { results := [.lit (.bool true)], args := [d1, d2, d3] }
  | _ => none }
def lawS0129ANilIffRow : OpenClaim := { program := "ybulkbqmfmt", sum := "e28c5e6a65f6eeef4fa77254a577bb4a3413e056cf3bf07b9e46adea2ff6346f", func := "example.com/causaline/causaline.LawS0129ANilIff", spec := "lawS0129ANilIff", stops := ["fmt.errorf"], inPlace := ["fmt.errorf"], apart := false }
/-- NO THEOREM (fmt's text is open here; it may be false): for the released tool's asking of the row's closed facts alone. THE STATEMENT IS 'LawS0129ANilIffToldSaid' (YbulkbqmFmtCards.lean). -/
def LawS0129ANilIffFormAsk : Prop := lawS0129ANilIffRow.holds Ybaf.pinned (OpenSpec.ofChange lawS0129ANilIffSpec)

/-- ITS FALSE NEIGHBOUR: 'it returns false'. Refute it at one input. -/
def lawS0129ANilIffWrong : ChangeSpec := { name := "lawS0129ANilIff", fn := fun _ => fun
  | [d1, d2, d3] => { results := [.lit (.bool false)], args := [d1, d2, d3] }
  | _ => none }
def LawS0129ANilIffWrongFormAsk : Prop := lawS0129ANilIffRow.holds Ybaf.pinned (OpenSpec.ofChange lawS0129ANilIffWrong)

/-- 'causaline.LawS0129AMarked': WHATEVER THE INPUT: true; the input reads as it did. -/
def lawS0129AMarkedSpec : ChangeSpec := { name := "lawS0129AMarked", fn := fun _ => fun
  | [d1, d2, d3, d4] => { results := [.lit (.bool true)], args := [d1, d2, d3, d4] }
  | _ => none }
def lawS0129AMarkedRow : OpenClaim := { program := "ybulkbqmfmt", sum := "e28c5e6a65f6eeef4fa77254a577bb4a3413e056cf3bf07b9e46adea2ff6346f", func := "example.com/causaline/causaline.LawS0129AMarked", spec := "lawS0129AMarked", stops := ["fmt.errorf"], inPlace := ["fmt.errorf"], apart := false }
/-- NO THEOREM (fmt's text is open here; it may be false): for the released tool's asking of the row's closed facts alone. THE STATEMENT IS 'LawS0129AMarkedToldSaid' (YbulkbqmFmtCards.lean). -/
def LawS0129AMarkedFormAsk : Prop := lawS0129AMarkedRow.holds Ybaf.pinned (OpenSpec.ofChange lawS0129AMarkedSpec)

/-- ITS FALSE NEIGHBOUR: 'it returns false'. Refute it at one input. -/
def lawS0129AMarkedWrong : ChangeSpec := { name := "lawS0129AMarked", fn := fun _ => fun
  | [d1, d2, d3, d4] => { results := [.lit (.bool false)], args := [d1, d2, d3, d4] }
  | _ => none }
def LawS0129AMarkedWrongFormAsk : Prop := lawS0129AMarkedRow.holds Ybaf.pinned (OpenSpec.ofChange lawS0129AMarkedWrong)

end Rows
end Go.Proofs.YbulkbqmFmt
