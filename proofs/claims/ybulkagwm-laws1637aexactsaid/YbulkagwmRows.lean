/-
  No cell of these rows narrows 'for every input' (looked for: loops, veiled, ifaces, maps, wideKeys, modest, calm, conditions, laid).
  DERIVED. THE GIVEN ROWS OF THIS SEAT. 2 by the template 'for every input the law returns true; each argument reads behind the call as it read before'; 0 by the template 'total and deterministic' (their statements: YbulkagwmTotals.lean).
  GIVEN WITH THE SEED: the statements are not yours to turn. If you find one false, say at which input.
  Laid BY PROGRAM, IN A SANDBOX (cutbox-rows.mjs): the forced cells as the released guide's own fill.sh prints them over the translation 26839875ccdf7262… (all of the seat's roots in one cut). By AI agents, Wed Nov 11 2026. No macro, syntax, notation, axiom, sorry.
-/
import Derived.Test.YbulkagwmChecked
import GoSem.Claim
import GoSem.ClaimJoined
import GoSem.ClaimMapViews
import Derived.JoinedTies
import Derived.KernelRfl
namespace Go.Proofs.Ybulkagwm
/- THE CELL 'sum', in the pinned program and in every row, IS THE sha256 OF THE DUMP (.gsa) THAT YbulkagwmProg.lean LOADS. Nothing in Lean hashes anything: it is a label: what it is worth is what the hold of that sum in a sandbox is worth. -/
noncomputable def Yba.pinned : Pinned := { name := "ybulkagwm", sum := "26839875ccdf72620faecccb59bce86e0f8d89c0610679f48fe877210aad4807", checked := Yba.checked }
namespace Rows
def none {H : Type} : Left H := { results := [], args := [] }

/-- 'consensus.LawS1637AExact': WHATEVER THE INPUT: true; the input reads as it did. -/
def lawS1637AExactSpec : ChangeSpec := { name := "lawS1637AExact", fn := fun _ => fun
  | [d1, d2, d3, d4] => { results := [.lit (.bool true)], args := [d1, d2, d3, d4] }
  | _ => none }
def lawS1637AExactRow : OpenClaim := { program := "ybulkagwm", sum := "26839875ccdf72620faecccb59bce86e0f8d89c0610679f48fe877210aad4807", func := "example.com/quorumhive/quorumhive/consensus.LawS1637AExact", spec := "lawS1637AExact", named := ["encoding/binary.BigEndian"], apart := false }
def LawS1637AExactSaid : Prop := lawS1637AExactRow.holds Yba.pinned (OpenSpec.ofChange lawS1637AExactSpec)

/-- ITS FALSE NEIGHBOUR: 'it returns false'. Refute it at one input. -/
def lawS1637AExactWrong : ChangeSpec := { name := "lawS1637AExact", fn := fun _ => fun
  | [d1, d2, d3, d4] => { results := [.lit (.bool false)], args := [d1, d2, d3, d4] }
  | _ => none }
def LawS1637AExactWrongFalsely : Prop := lawS1637AExactRow.holds Yba.pinned (OpenSpec.ofChange lawS1637AExactWrong)

/-- 'consensus.LawS1637AKind': WHATEVER THE INPUT: true; the input reads as it did. -/
def lawS1637AKindSpec : ChangeSpec := { name := "lawS1637AKind", fn := fun _ => fun
  | [d1, d2, d3, d4] => { results := [.lit (.bool true)], args := [d1, d2, d3, d4] }
  | _ => none }
def lawS1637AKindRow : OpenClaim := { program := "ybulkagwm", sum := "26839875ccdf72620faecccb59bce86e0f8d89c0610679f48fe877210aad4807", func := "example.com/quorumhive/quorumhive/consensus.LawS1637AKind", spec := "lawS1637AKind", named := ["encoding/binary.BigEndian"], apart := false }
def LawS1637AKindSaid : Prop := lawS1637AKindRow.holds Yba.pinned (OpenSpec.ofChange lawS1637AKindSpec)

/-- ITS FALSE NEIGHBOUR: 'it returns false'. Refute it at one input. -/
def lawS1637AKindWrong : ChangeSpec := { name := "lawS1637AKind", fn := fun _ => fun
  | [d1, d2, d3, d4] => { results := [.lit (.bool false)], args := [d1, d2, d3, d4] }
  | _ => none }
def LawS1637AKindWrongFalsely : Prop := lawS1637AKindRow.holds Yba.pinned (OpenSpec.ofChange lawS1637AKindWrong)

end Rows
end Go.Proofs.Ybulkagwm
