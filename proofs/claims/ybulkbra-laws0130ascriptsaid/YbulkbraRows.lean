/-
  No cell of these rows narrows 'for every input' (looked for: loops, veiled, ifaces, maps, wideKeys, modest, calm, conditions, laid).
  DERIVED. THE GIVEN ROWS OF THIS SEAT. 2 by the template 'for every input the law returns true; each argument reads behind the call as it read before'; 0 by the template 'total and deterministic' (their statements: YbulkbraTotals.lean).
  GIVEN WITH THE SEED: the statements are not yours to turn. If you find one false, say at which input.
  Laid BY PROGRAM, IN A SANDBOX (cutbox-rows.mjs): the forced cells as the released guide's own fill.sh prints them over the translation 1f615a8a5d681617… (all of the seat's roots in one cut). By AI agents, Wed Nov 11 2026. No macro, syntax, notation, axiom, sorry.
-/
import Derived.Test.YbulkbraChecked
import GoSem.Claim
import GoSem.ClaimJoined
import GoSem.ClaimMapViews
import Derived.JoinedTies
import Derived.KernelRfl
namespace Go.Proofs.Ybulkbra
/- THE CELL 'sum', in the pinned program and in every row, IS THE sha256 OF THE DUMP (.gsa) THAT YbulkbraProg.lean LOADS. Nothing in Lean hashes anything: it is a label: what it is worth is what the hold of that sum in a sandbox is worth. -/
noncomputable def Yba.pinned : Pinned := { name := "ybulkbra", sum := "1f615a8a5d68161737898d7419dcd6fe4309fd4f93f51b5f7a2906b2644f9719", checked := Yba.checked }
namespace Rows
def none {H : Type} : Left H := { results := [], args := [] }

/-- 'store.LawS0130AScript': WHATEVER THE INPUT: true; the input reads as it did. -/
def lawS0130AScriptSpec : ChangeSpec := { name := "lawS0130AScript", fn := fun _ => fun
  | [d] => { results := [.lit (.bool true)], args := [d] }
  | _ => none }
def lawS0130AScriptRow : OpenClaim := { program := "ybulkbra", sum := "1f615a8a5d68161737898d7419dcd6fe4309fd4f93f51b5f7a2906b2644f9719", func := "example.com/strandweave/strandweave/store.LawS0130AScript", spec := "lawS0130AScript", inPlace := ["(*internal/sync.Mutex).Lock", "internal/race.Disable", "sync/atomic.CompareAndSwapInt32", "internal/race.Enable", "internal/race.Acquire", "(*internal/sync.Mutex).lockSlow", "internal/sync.runtime_canSpin", "internal/sync.runtime_doSpin", "internal/sync.throw", "internal/sync.runtime_nanotime", "internal/sync.runtime_SemacquireMutex", "sync/atomic.AddInt32", "(*internal/sync.Mutex).Unlock", "internal/race.ReleaseMerge", "(*internal/sync.Mutex).unlockSlow", "internal/sync.fatal", "internal/sync.runtime_Semrelease"], plainKeys := false, apart := false }
def LawS0130AScriptSaid : Prop := lawS0130AScriptRow.holds Yba.pinned (OpenSpec.ofChange lawS0130AScriptSpec)

/-- ITS FALSE NEIGHBOUR: 'it returns false'. Refute it at one input. -/
def lawS0130AScriptWrong : ChangeSpec := { name := "lawS0130AScript", fn := fun _ => fun
  | [d] => { results := [.lit (.bool false)], args := [d] }
  | _ => none }
def LawS0130AScriptWrongFalsely : Prop := lawS0130AScriptRow.holds Yba.pinned (OpenSpec.ofChange lawS0130AScriptWrong)

/-- 'store.LawS0130AOne': WHATEVER THE INPUT: true; the input reads as it did. -/
def lawS0130AOneSpec : ChangeSpec := { name := "lawS0130AOne", fn := fun _ => fun
  | [d1, d2] => { results := [.lit (.bool true)], args := [d1, d2] }
  | _ => none }
def lawS0130AOneRow : OpenClaim := { program := "ybulkbra", sum := "1f615a8a5d68161737898d7419dcd6fe4309fd4f93f51b5f7a2906b2644f9719", func := "example.com/strandweave/strandweave/store.LawS0130AOne", spec := "lawS0130AOne", inPlace := ["(*internal/sync.Mutex).Lock", "internal/race.Disable", "sync/atomic.CompareAndSwapInt32", "internal/race.Enable", "internal/race.Acquire", "(*internal/sync.Mutex).lockSlow", "internal/sync.runtime_canSpin", "internal/sync.runtime_doSpin", "internal/sync.throw", "internal/sync.runtime_nanotime", "internal/sync.runtime_SemacquireMutex", "sync/atomic.AddInt32", "(*internal/sync.Mutex).Unlock", "internal/race.ReleaseMerge", "(*internal/sync.Mutex).unlockSlow", "internal/sync.fatal", "internal/sync.runtime_Semrelease"], plainKeys := false, apart := false }
def LawS0130AOneSaid : Prop := lawS0130AOneRow.holds Yba.pinned (OpenSpec.ofChange lawS0130AOneSpec)

/-- ITS FALSE NEIGHBOUR: 'it returns false'. Refute it at one input. -/
def lawS0130AOneWrong : ChangeSpec := { name := "lawS0130AOne", fn := fun _ => fun
  | [d1, d2] => { results := [.lit (.bool false)], args := [d1, d2] }
  | _ => none }
def LawS0130AOneWrongFalsely : Prop := lawS0130AOneRow.holds Yba.pinned (OpenSpec.ofChange lawS0130AOneWrong)

end Rows
end Go.Proofs.Ybulkbra
