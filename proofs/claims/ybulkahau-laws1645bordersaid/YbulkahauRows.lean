/-
  No cell of these rows narrows 'for every input' (looked for: loops, veiled, ifaces, maps, wideKeys, modest, calm, conditions, laid).
  DERIVED. THE GIVEN ROWS OF THIS SEAT. 2 by the template 'for every input the law returns true; each argument reads behind the call as it read before'; 0 by the template 'total and deterministic' (their statements: YbulkahauTotals.lean).
  GIVEN WITH THE SEED: the statements are not yours to turn. If you find one false, say at which input.
  Laid BY PROGRAM, IN A SANDBOX (cutbox-rows.mjs): the forced cells as the released guide's own fill.sh prints them over the translation 1d874e0d0cb79a0e… (all of the seat's roots in one cut). By AI agents, Wed Nov 11 2026. No macro, syntax, notation, axiom, sorry.
-/
import Derived.Test.YbulkahauChecked
import GoSem.Claim
import GoSem.ClaimJoined
import GoSem.ClaimMapViews
import Derived.JoinedTies
import Derived.KernelRfl
namespace Go.Proofs.Ybulkahau
/- THE CELL 'sum', in the pinned program and in every row, IS THE sha256 OF THE DUMP (.gsa) THAT YbulkahauProg.lean LOADS. Nothing in Lean hashes anything: it is a label: what it is worth is what the hold of that sum in a sandbox is worth. -/
noncomputable def Yba.pinned : Pinned := { name := "ybulkahau", sum := "1d874e0d0cb79a0e3cf94bcf7b108f0bfc539e446640890a2c868c27a9d92e49", checked := Yba.checked }
namespace Rows
def none {H : Type} : Left H := { results := [], args := [] }

/-- 'directory.LawS1645BOrder': WHATEVER THE INPUT: true; the input reads as it did. -/
def lawS1645BOrderSpec : ChangeSpec := { name := "lawS1645BOrder", fn := fun _ => fun
  | [d] => { results := [.lit (.bool true)], args := [d] }
  | _ => none }
def lawS1645BOrderRow : OpenClaim := { program := "ybulkahau", sum := "1d874e0d0cb79a0e3cf94bcf7b108f0bfc539e446640890a2c868c27a9d92e49", func := "example.com/keyweave/keyweave/pkg/directory.LawS1645BOrder", spec := "lawS1645BOrder", inPlace := ["(*internal/sync.Mutex).Lock", "internal/race.Disable", "sync/atomic.CompareAndSwapInt32", "internal/race.Enable", "internal/race.Acquire", "(*internal/sync.Mutex).lockSlow", "internal/sync.runtime_canSpin", "internal/sync.runtime_doSpin", "internal/sync.throw", "internal/sync.runtime_nanotime", "internal/sync.runtime_SemacquireMutex", "sync/atomic.AddInt32", "(*internal/sync.Mutex).Unlock", "internal/race.ReleaseMerge", "(*internal/sync.Mutex).unlockSlow", "internal/sync.fatal", "internal/sync.runtime_Semrelease"], unfollowed := true, recurses := true, apart := false }
def LawS1645BOrderSaid : Prop := lawS1645BOrderRow.holds Yba.pinned (OpenSpec.ofChange lawS1645BOrderSpec)

/-- ITS FALSE NEIGHBOUR: 'it returns false'. Refute it at one input. -/
def lawS1645BOrderWrong : ChangeSpec := { name := "lawS1645BOrder", fn := fun _ => fun
  | [d] => { results := [.lit (.bool false)], args := [d] }
  | _ => none }
def LawS1645BOrderWrongFalsely : Prop := lawS1645BOrderRow.holds Yba.pinned (OpenSpec.ofChange lawS1645BOrderWrong)

/-- 'directory.LawS1645BSibling': WHATEVER THE INPUT: true; the input reads as it did. -/
def lawS1645BSiblingSpec : ChangeSpec := { name := "lawS1645BSibling", fn := fun _ => fun
  | [d] => { results := [.lit (.bool true)], args := [d] }
  | _ => none }
def lawS1645BSiblingRow : OpenClaim := { program := "ybulkahau", sum := "1d874e0d0cb79a0e3cf94bcf7b108f0bfc539e446640890a2c868c27a9d92e49", func := "example.com/keyweave/keyweave/pkg/directory.LawS1645BSibling", spec := "lawS1645BSibling", inPlace := ["(*internal/sync.Mutex).Lock", "internal/race.Disable", "sync/atomic.CompareAndSwapInt32", "internal/race.Enable", "internal/race.Acquire", "(*internal/sync.Mutex).lockSlow", "internal/sync.runtime_canSpin", "internal/sync.runtime_doSpin", "internal/sync.throw", "internal/sync.runtime_nanotime", "internal/sync.runtime_SemacquireMutex", "sync/atomic.AddInt32", "(*internal/sync.Mutex).Unlock", "internal/race.ReleaseMerge", "(*internal/sync.Mutex).unlockSlow", "internal/sync.fatal", "internal/sync.runtime_Semrelease"], unfollowed := true, recurses := true, apart := false }
def LawS1645BSiblingSaid : Prop := lawS1645BSiblingRow.holds Yba.pinned (OpenSpec.ofChange lawS1645BSiblingSpec)

/-- ITS FALSE NEIGHBOUR: 'it returns false'. Refute it at one input. -/
def lawS1645BSiblingWrong : ChangeSpec := { name := "lawS1645BSibling", fn := fun _ => fun
  | [d] => { results := [.lit (.bool false)], args := [d] }
  | _ => none }
def LawS1645BSiblingWrongFalsely : Prop := lawS1645BSiblingRow.holds Yba.pinned (OpenSpec.ofChange lawS1645BSiblingWrong)

end Rows
end Go.Proofs.Ybulkahau
