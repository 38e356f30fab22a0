/-
  No cell of these rows narrows 'for every input' (looked for: loops, veiled, ifaces, maps, wideKeys, modest, calm, conditions, laid).
  DERIVED. THE GIVEN ROWS OF THIS SEAT. 3 by the template 'for every input the law returns true; each argument reads behind the call as it read before'; 0 by the template 'total and deterministic' (their statements: YbulkahagTotals.lean).
  GIVEN WITH THE SEED: the statements are not yours to turn. If you find one false, say at which input.
  Laid BY PROGRAM, IN A SANDBOX (cutbox-rows.mjs): the forced cells as the released guide's own fill.sh prints them over the translation 390a800b4492f8a0… (all of the seat's roots in one cut). By AI agents, Wed Nov 11 2026. No macro, syntax, notation, axiom, sorry.
-/
import Derived.Test.YbulkahagChecked
import GoSem.Claim
import GoSem.ClaimJoined
import GoSem.ClaimMapViews
import Derived.JoinedTies
import Derived.KernelRfl
namespace Go.Proofs.Ybulkahag
/- THE CELL 'sum', in the pinned program and in every row, IS THE sha256 OF THE DUMP (.gsa) THAT YbulkahagProg.lean LOADS. Nothing in Lean hashes anything: it is a label: what it is worth is what the hold of that sum in a sandbox is worth. -/
noncomputable def Yba.pinned : Pinned := { name := "ybulkahag", sum := "390a800b4492f8a092e1bbb274ea5a2a31d777412b1ff48f8ec5714b5314a4c4", checked := Yba.checked }
namespace Rows
def none {H : Type} : Left H := { results := [], args := [] }

/-- 'resolvent.LawS1644AMembership': WHATEVER THE INPUT: true; the input reads as it did. -/
def lawS1644AMembershipSpec : ChangeSpec := { name := "lawS1644AMembership", fn := fun _ => fun
  | [d1, d2] => { results := [.lit (.bool true)], args := [d1, d2] }
  | _ => none }
def lawS1644AMembershipRow : OpenClaim := { program := "ybulkahag", sum := "390a800b4492f8a092e1bbb274ea5a2a31d777412b1ff48f8ec5714b5314a4c4", func := "example.com/resolvent/resolvent.LawS1644AMembership", spec := "lawS1644AMembership", unfollowed := true, recurses := true, plainKeys := false, apart := false }
def LawS1644AMembershipSaid : Prop := lawS1644AMembershipRow.holds Yba.pinned (OpenSpec.ofChange lawS1644AMembershipSpec)

/-- ITS FALSE NEIGHBOUR: 'it returns false'. Refute it at one input. -/
def lawS1644AMembershipWrong : ChangeSpec := { name := "lawS1644AMembership", fn := fun _ => fun
  | [d1, d2] => { results := [.lit (.bool false)], args := [d1, d2] }
  | _ => none }
def LawS1644AMembershipWrongFalsely : Prop := lawS1644AMembershipRow.holds Yba.pinned (OpenSpec.ofChange lawS1644AMembershipWrong)

/-- 'resolvent.LawS1644BMerge': WHATEVER THE INPUT: true; the input reads as it did. -/
def lawS1644BMergeSpec : ChangeSpec := { name := "lawS1644BMerge", fn := fun _ => fun
  | [d1, d2, d3, d4, d5] => { results := [.lit (.bool true)], args := [d1, d2, d3, d4, d5] }
  | _ => none }
def lawS1644BMergeRow : OpenClaim := { program := "ybulkahag", sum := "390a800b4492f8a092e1bbb274ea5a2a31d777412b1ff48f8ec5714b5314a4c4", func := "example.com/resolvent/resolvent.LawS1644BMerge", spec := "lawS1644BMerge", unfollowed := true, recurses := true, plainKeys := false, apart := false }
def LawS1644BMergeSaid : Prop := lawS1644BMergeRow.holds Yba.pinned (OpenSpec.ofChange lawS1644BMergeSpec)

/-- ITS FALSE NEIGHBOUR: 'it returns false'. Refute it at one input. -/
def lawS1644BMergeWrong : ChangeSpec := { name := "lawS1644BMerge", fn := fun _ => fun
  | [d1, d2, d3, d4, d5] => { results := [.lit (.bool false)], args := [d1, d2, d3, d4, d5] }
  | _ => none }
def LawS1644BMergeWrongFalsely : Prop := lawS1644BMergeRow.holds Yba.pinned (OpenSpec.ofChange lawS1644BMergeWrong)

/-- 'resolvent.LawS1644BKeepsEdit': WHATEVER THE INPUT: true; the input reads as it did. -/
def lawS1644BKeepsEditSpec : ChangeSpec := { name := "lawS1644BKeepsEdit", fn := fun _ => fun
  | [d1, d2, d3, d4, d5] => { results := [.lit (.bool true)], args := [d1, d2, d3, d4, d5] }
  | _ => none }
def lawS1644BKeepsEditRow : OpenClaim := { program := "ybulkahag", sum := "390a800b4492f8a092e1bbb274ea5a2a31d777412b1ff48f8ec5714b5314a4c4", func := "example.com/resolvent/resolvent.LawS1644BKeepsEdit", spec := "lawS1644BKeepsEdit", unfollowed := true, recurses := true, plainKeys := false, apart := false }
def LawS1644BKeepsEditSaid : Prop := lawS1644BKeepsEditRow.holds Yba.pinned (OpenSpec.ofChange lawS1644BKeepsEditSpec)

/-- ITS FALSE NEIGHBOUR: 'it returns false'. Refute it at one input. -/
def lawS1644BKeepsEditWrong : ChangeSpec := { name := "lawS1644BKeepsEdit", fn := fun _ => fun
  | [d1, d2, d3, d4, d5] => { results := [.lit (.bool false)], args := [d1, d2, d3, d4, d5] }
  | _ => none }
def LawS1644BKeepsEditWrongFalsely : Prop := lawS1644BKeepsEditRow.holds Yba.pinned (OpenSpec.ofChange lawS1644BKeepsEditWrong)

end Rows
end Go.Proofs.Ybulkahag
