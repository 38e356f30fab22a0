/-
  No cell of these rows narrows 'for every input' (looked for: loops, veiled, ifaces, maps, wideKeys, modest, calm, conditions, laid).
  DERIVED. THE GIVEN ROWS OF THIS SEAT. 6 by the template 'for every input the law returns true; each argument reads behind the call as it read before'; 0 by the template 'total and deterministic' (their statements: YbulkagzsTotals.lean).
  GIVEN WITH THE SEED: the statements are not yours to turn. If you find one false, say at which input.
  Laid BY PROGRAM, IN A SANDBOX (cutbox-rows.mjs): the forced cells as the released guide's own fill.sh prints them over the translation 2da4045ead4ec6c5… (all of the seat's roots in one cut). By AI agents, Wed Nov 11 2026. No macro, syntax, notation, axiom, sorry.
-/
import Derived.Test.YbulkagzsChecked
import GoSem.Claim
import GoSem.ClaimJoined
import GoSem.ClaimMapViews
import Derived.JoinedTies
import Derived.KernelRfl
namespace Go.Proofs.Ybulkagzs
/- THE CELL 'sum', in the pinned program and in every row, IS THE sha256 OF THE DUMP (.gsa) THAT YbulkagzsProg.lean LOADS. Nothing in Lean hashes anything: it is a label: what it is worth is what the hold of that sum in a sandbox is worth. -/
noncomputable def Yba.pinned : Pinned := { name := "ybulkagzs", sum := "2da4045ead4ec6c501ec0860c1b6b93a2bfdbaba2143d726a9f7fcdcff95bf41", checked := Yba.checked }
namespace Rows
def none {H : Type} : Left H := { results := [], args := [] }

/-- 'xorkin.LawS1643AText': WHATEVER THE INPUT: true; the input reads as it did. -/
def lawS1643ATextSpec : ChangeSpec := { name := "lawS1643AText", fn := fun _ => fun
  | [d1, d2] => { results := [.lit (.bool true)], args := [d1, d2] }
  | _ => none }
def lawS1643ATextRow : OpenClaim := { program := "ybulkagzs", sum := "2da4045ead4ec6c501ec0860c1b6b93a2bfdbaba2143d726a9f7fcdcff95bf41", func := "example.com/xorkin/xorkin.LawS1643AText", spec := "lawS1643AText", inPlace := ["internal/abi.NoEscape"], plainKeys := false, apart := false }
def LawS1643ATextSaid : Prop := lawS1643ATextRow.holds Yba.pinned (OpenSpec.ofChange lawS1643ATextSpec)

/-- ITS FALSE NEIGHBOUR: 'it returns false'. Refute it at one input. -/
def lawS1643ATextWrong : ChangeSpec := { name := "lawS1643AText", fn := fun _ => fun
  | [d1, d2] => { results := [.lit (.bool false)], args := [d1, d2] }
  | _ => none }
def LawS1643ATextWrongFalsely : Prop := lawS1643ATextRow.holds Yba.pinned (OpenSpec.ofChange lawS1643ATextWrong)

/-- 'xorkin.LawS1643ANegative': WHATEVER THE INPUT: true; the input reads as it did. -/
def lawS1643ANegativeSpec : ChangeSpec := { name := "lawS1643ANegative", fn := fun _ => fun
  | [d1, d2] => { results := [.lit (.bool true)], args := [d1, d2] }
  | _ => none }
def lawS1643ANegativeRow : OpenClaim := { program := "ybulkagzs", sum := "2da4045ead4ec6c501ec0860c1b6b93a2bfdbaba2143d726a9f7fcdcff95bf41", func := "example.com/xorkin/xorkin.LawS1643ANegative", spec := "lawS1643ANegative", inPlace := ["internal/abi.NoEscape"], plainKeys := false, apart := false }
def LawS1643ANegativeSaid : Prop := lawS1643ANegativeRow.holds Yba.pinned (OpenSpec.ofChange lawS1643ANegativeSpec)

/-- ITS FALSE NEIGHBOUR: 'it returns false'. Refute it at one input. -/
def lawS1643ANegativeWrong : ChangeSpec := { name := "lawS1643ANegative", fn := fun _ => fun
  | [d1, d2] => { results := [.lit (.bool false)], args := [d1, d2] }
  | _ => none }
def LawS1643ANegativeWrongFalsely : Prop := lawS1643ANegativeRow.holds Yba.pinned (OpenSpec.ofChange lawS1643ANegativeWrong)

/-- 'xorkin.LawS1643BFresh': WHATEVER THE INPUT: true; the input reads as it did. -/
def lawS1643BFreshSpec : ChangeSpec := { name := "lawS1643BFresh", fn := fun _ => fun
  | [d1, d2, d3, d4] => { results := [.lit (.bool true)], args := [d1, d2, d3, d4] }
  | _ => none }
def lawS1643BFreshRow : OpenClaim := { program := "ybulkagzs", sum := "2da4045ead4ec6c501ec0860c1b6b93a2bfdbaba2143d726a9f7fcdcff95bf41", func := "example.com/xorkin/xorkin.LawS1643BFresh", spec := "lawS1643BFresh", plainKeys := false, apart := false }
def LawS1643BFreshSaid : Prop := lawS1643BFreshRow.holds Yba.pinned (OpenSpec.ofChange lawS1643BFreshSpec)

/-- ITS FALSE NEIGHBOUR: 'it returns false'. Refute it at one input. -/
def lawS1643BFreshWrong : ChangeSpec := { name := "lawS1643BFresh", fn := fun _ => fun
  | [d1, d2, d3, d4] => { results := [.lit (.bool false)], args := [d1, d2, d3, d4] }
  | _ => none }
def LawS1643BFreshWrongFalsely : Prop := lawS1643BFreshRow.holds Yba.pinned (OpenSpec.ofChange lawS1643BFreshWrong)

/-- 'xorkin.LawS1643BApart': WHATEVER THE INPUT: true; the input reads as it did. -/
def lawS1643BApartSpec : ChangeSpec := { name := "lawS1643BApart", fn := fun _ => fun
  | [d1, d2, d3] => { results := [.lit (.bool true)], args := [d1, d2, d3] }
  | _ => none }
def lawS1643BApartRow : OpenClaim := { program := "ybulkagzs", sum := "2da4045ead4ec6c501ec0860c1b6b93a2bfdbaba2143d726a9f7fcdcff95bf41", func := "example.com/xorkin/xorkin.LawS1643BApart", spec := "lawS1643BApart", plainKeys := false, apart := false }
def LawS1643BApartSaid : Prop := lawS1643BApartRow.holds Yba.pinned (OpenSpec.ofChange lawS1643BApartSpec)

/-- ITS FALSE NEIGHBOUR: 'it returns false'. Refute it at one input. -/
def lawS1643BApartWrong : ChangeSpec := { name := "lawS1643BApart", fn := fun _ => fun
  | [d1, d2, d3] => { results := [.lit (.bool false)], args := [d1, d2, d3] }
  | _ => none }
def LawS1643BApartWrongFalsely : Prop := lawS1643BApartRow.holds Yba.pinned (OpenSpec.ofChange lawS1643BApartWrong)

/-- 'xorkin.LawS1643CMemoryInOrder': WHATEVER THE INPUT: true; the input reads as it did. -/
def lawS1643CMemoryInOrderSpec : ChangeSpec := { name := "lawS1643CMemoryInOrder", fn := fun _ => fun
  | [d1, d2] => { results := [.lit (.bool true)], args := [d1, d2] }
  | _ => none }
def lawS1643CMemoryInOrderRow : OpenClaim := { program := "ybulkagzs", sum := "2da4045ead4ec6c501ec0860c1b6b93a2bfdbaba2143d726a9f7fcdcff95bf41", func := "example.com/xorkin/xorkin.LawS1643CMemoryInOrder", spec := "lawS1643CMemoryInOrder", inPlace := ["(*sync.WaitGroup).Go", "(*sync.WaitGroup).Add", "internal/race.ReleaseMerge", "internal/race.Disable", "internal/race.Enable", "internal/synctest.IsInBubble", "internal/synctest.Associate[sync.WaitGroup]", "sync.fatal", "sync/atomic.OrUint64", "sync/atomic.AddUint64", "internal/race.Read", "sync/atomic.LoadUint64", "sync/atomic.StoreUint64", "internal/synctest.Disassociate[sync.WaitGroup]", "sync.runtime_Semrelease", "(*sync.WaitGroup).Go$1", "(*sync.WaitGroup).Go$1$1", "(*sync.WaitGroup).Done", "(*sync.WaitGroup).Wait", "internal/race.Acquire", "internal/synctest.IsAssociated[sync.WaitGroup]", "sync/atomic.CompareAndSwapUint64", "internal/race.Write", "sync.runtime_SemacquireWaitGroup"], unfollowed := true, recurses := true, plainKeys := false, apart := false }
def LawS1643CMemoryInOrderSaid : Prop := lawS1643CMemoryInOrderRow.holds Yba.pinned (OpenSpec.ofChange lawS1643CMemoryInOrderSpec)

/-- ITS FALSE NEIGHBOUR: 'it returns false'. Refute it at one input. -/
def lawS1643CMemoryInOrderWrong : ChangeSpec := { name := "lawS1643CMemoryInOrder", fn := fun _ => fun
  | [d1, d2] => { results := [.lit (.bool false)], args := [d1, d2] }
  | _ => none }
def LawS1643CMemoryInOrderWrongFalsely : Prop := lawS1643CMemoryInOrderRow.holds Yba.pinned (OpenSpec.ofChange lawS1643CMemoryInOrderWrong)

/-- 'xorkin.LawS1643COtherTransportResults': WHATEVER THE INPUT: true; the input reads as it did. -/
def lawS1643COtherTransportResultsSpec : ChangeSpec := { name := "lawS1643COtherTransportResults", fn := fun _ => fun
  | [d1, d2] => { results := [.lit (.bool true)], args := [d1, d2] }
  | _ => none }
def lawS1643COtherTransportResultsRow : OpenClaim := { program := "ybulkagzs", sum := "2da4045ead4ec6c501ec0860c1b6b93a2bfdbaba2143d726a9f7fcdcff95bf41", func := "example.com/xorkin/xorkin.LawS1643COtherTransportResults", spec := "lawS1643COtherTransportResults", inPlace := ["(*sync.WaitGroup).Go", "(*sync.WaitGroup).Add", "internal/race.ReleaseMerge", "internal/race.Disable", "internal/race.Enable", "internal/synctest.IsInBubble", "internal/synctest.Associate[sync.WaitGroup]", "sync.fatal", "sync/atomic.OrUint64", "sync/atomic.AddUint64", "internal/race.Read", "sync/atomic.LoadUint64", "sync/atomic.StoreUint64", "internal/synctest.Disassociate[sync.WaitGroup]", "sync.runtime_Semrelease", "(*sync.WaitGroup).Go$1", "(*sync.WaitGroup).Go$1$1", "(*sync.WaitGroup).Done", "(*sync.WaitGroup).Wait", "internal/race.Acquire", "internal/synctest.IsAssociated[sync.WaitGroup]", "sync/atomic.CompareAndSwapUint64", "internal/race.Write", "sync.runtime_SemacquireWaitGroup"], unfollowed := true, recurses := true, plainKeys := false, apart := false }
def LawS1643COtherTransportResultsSaid : Prop := lawS1643COtherTransportResultsRow.holds Yba.pinned (OpenSpec.ofChange lawS1643COtherTransportResultsSpec)

/-- ITS FALSE NEIGHBOUR: 'it returns false'. Refute it at one input. -/
def lawS1643COtherTransportResultsWrong : ChangeSpec := { name := "lawS1643COtherTransportResults", fn := fun _ => fun
  | [d1, d2] => { results := [.lit (.bool false)], args := [d1, d2] }
  | _ => none }
def LawS1643COtherTransportResultsWrongFalsely : Prop := lawS1643COtherTransportResultsRow.holds Yba.pinned (OpenSpec.ofChange lawS1643COtherTransportResultsWrong)

end Rows
end Go.Proofs.Ybulkagzs
