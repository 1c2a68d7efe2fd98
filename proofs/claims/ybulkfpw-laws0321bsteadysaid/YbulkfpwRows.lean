/-
  No cell of these rows narrows 'for every input' (looked for: loops, veiled, ifaces, maps, wideKeys, modest, calm, conditions, laid).
  DERIVED. THE GIVEN ROWS OF THIS SEAT. 6 by the template 'for every input the law returns true; each argument reads behind the call as it read before'; 0 by the template 'total and deterministic' (their statements: YbulkfpwTotals.lean).
  GIVEN WITH THE SEED: the statements are not yours to turn. If you find one false, say at which input.
  Laid BY PROGRAM, IN A SANDBOX (cutbox-rows.mjs): the forced cells as the released guide's own fill.sh prints them over the translation e6a9f1d51d397523… (all of the seat's roots in one cut). By AI agents, Wed Nov 11 2026. No macro, syntax, notation, axiom, sorry.
-/
import Derived.Test.YbulkfpwChecked
import GoSem.Claim
import GoSem.ClaimJoined
import GoSem.ClaimMapViews
import Derived.JoinedTies
import Derived.KernelRfl
namespace Go.Proofs.Ybulkfpw
/- THE CELL 'sum', in the pinned program and in every row, IS THE sha256 OF THE DUMP (.gsa) THAT YbulkfpwProg.lean LOADS. Nothing in Lean hashes anything: it is a label: what it is worth is what the hold of that sum in a sandbox is worth. -/
noncomputable def Yba.pinned : Pinned := { name := "ybulkfpw", sum := "e6a9f1d51d397523d06e6f06c0a46f03ede01a9f1799e7487f1b68c3bf03385f", checked := Yba.checked }
namespace Rows
def none {H : Type} : Left H := { results := [], args := [] }

/-- 'metric.LawS0321AStep': WHATEVER THE INPUT: true; the input reads as it did. -/
def lawS0321AStepSpec : ChangeSpec := { name := "lawS0321AStep", fn := fun _ => fun
  | [d1, d2, d3] => { results := [.lit (.bool true)], args := [d1, d2, d3] }
  | _ => none }
def lawS0321AStepRow : OpenClaim := { program := "ybulkfpw", sum := "e6a9f1d51d397523d06e6f06c0a46f03ede01a9f1799e7487f1b68c3bf03385f", func := "example.com/coarsen/coarsen/metric.LawS0321AStep", spec := "lawS0321AStep", apart := false }
def LawS0321AStepSaid : Prop := lawS0321AStepRow.holds Yba.pinned (OpenSpec.ofChange lawS0321AStepSpec)

/-- ITS FALSE NEIGHBOUR: 'it returns false'. Refute it at one input. -/
def lawS0321AStepWrong : ChangeSpec := { name := "lawS0321AStep", fn := fun _ => fun
  | [d1, d2, d3] => { results := [.lit (.bool false)], args := [d1, d2, d3] }
  | _ => none }
def LawS0321AStepWrongFalsely : Prop := lawS0321AStepRow.holds Yba.pinned (OpenSpec.ofChange lawS0321AStepWrong)

/-- 'metric.LawS0321ALoop': WHATEVER THE INPUT: true; the input reads as it did. -/
def lawS0321ALoopSpec : ChangeSpec := { name := "lawS0321ALoop", fn := fun _ => fun
  | [d1, d2, d3] => { results := [.lit (.bool true)], args := [d1, d2, d3] }
  | _ => none }
def lawS0321ALoopRow : OpenClaim := { program := "ybulkfpw", sum := "e6a9f1d51d397523d06e6f06c0a46f03ede01a9f1799e7487f1b68c3bf03385f", func := "example.com/coarsen/coarsen/metric.LawS0321ALoop", spec := "lawS0321ALoop", apart := false }
def LawS0321ALoopSaid : Prop := lawS0321ALoopRow.holds Yba.pinned (OpenSpec.ofChange lawS0321ALoopSpec)

/-- ITS FALSE NEIGHBOUR: 'it returns false'. Refute it at one input. -/
def lawS0321ALoopWrong : ChangeSpec := { name := "lawS0321ALoop", fn := fun _ => fun
  | [d1, d2, d3] => { results := [.lit (.bool false)], args := [d1, d2, d3] }
  | _ => none }
def LawS0321ALoopWrongFalsely : Prop := lawS0321ALoopRow.holds Yba.pinned (OpenSpec.ofChange lawS0321ALoopWrong)

/-- 'metric.LawS0321AAdd': WHATEVER THE INPUT: true; the input reads as it did. -/
def lawS0321AAddSpec : ChangeSpec := { name := "lawS0321AAdd", fn := fun _ => fun
  | [d1, d2, d3, d4] => { results := [.lit (.bool true)], args := [d1, d2, d3, d4] }
  | _ => none }
def lawS0321AAddRow : OpenClaim := { program := "ybulkfpw", sum := "e6a9f1d51d397523d06e6f06c0a46f03ede01a9f1799e7487f1b68c3bf03385f", func := "example.com/coarsen/coarsen/metric.LawS0321AAdd", spec := "lawS0321AAdd", apart := false }
def LawS0321AAddSaid : Prop := lawS0321AAddRow.holds Yba.pinned (OpenSpec.ofChange lawS0321AAddSpec)

/-- ITS FALSE NEIGHBOUR: 'it returns false'. Refute it at one input. -/
def lawS0321AAddWrong : ChangeSpec := { name := "lawS0321AAdd", fn := fun _ => fun
  | [d1, d2, d3, d4] => { results := [.lit (.bool false)], args := [d1, d2, d3, d4] }
  | _ => none }
def LawS0321AAddWrongFalsely : Prop := lawS0321AAddRow.holds Yba.pinned (OpenSpec.ofChange lawS0321AAddWrong)

/-- 'store.LawS0321BAfter': WHATEVER THE INPUT: true; the input reads as it did. -/
def lawS0321BAfterSpec : ChangeSpec := { name := "lawS0321BAfter", fn := fun _ => fun
  | [d1, d2, d3, d4, d5] => { results := [.lit (.bool true)], args := [d1, d2, d3, d4, d5] }
  | _ => none }
def lawS0321BAfterRow : OpenClaim := { program := "ybulkfpw", sum := "e6a9f1d51d397523d06e6f06c0a46f03ede01a9f1799e7487f1b68c3bf03385f", func := "example.com/coarsen/coarsen/store.LawS0321BAfter", spec := "lawS0321BAfter", apart := false }
def LawS0321BAfterSaid : Prop := lawS0321BAfterRow.holds Yba.pinned (OpenSpec.ofChange lawS0321BAfterSpec)

/-- ITS FALSE NEIGHBOUR: 'it returns false'. Refute it at one input. -/
def lawS0321BAfterWrong : ChangeSpec := { name := "lawS0321BAfter", fn := fun _ => fun
  | [d1, d2, d3, d4, d5] => { results := [.lit (.bool false)], args := [d1, d2, d3, d4, d5] }
  | _ => none }
def LawS0321BAfterWrongFalsely : Prop := lawS0321BAfterRow.holds Yba.pinned (OpenSpec.ofChange lawS0321BAfterWrong)

/-- 'store.LawS0321BRoundTrip': WHATEVER THE INPUT: true; the input reads as it did. -/
def lawS0321BRoundTripSpec : ChangeSpec := { name := "lawS0321BRoundTrip", fn := fun _ => fun
  | [d] => { results := [.lit (.bool true)], args := [d] }
  | _ => none }
def lawS0321BRoundTripRow : OpenClaim := { program := "ybulkfpw", sum := "e6a9f1d51d397523d06e6f06c0a46f03ede01a9f1799e7487f1b68c3bf03385f", func := "example.com/coarsen/coarsen/store.LawS0321BRoundTrip", spec := "lawS0321BRoundTrip", apart := false }
def LawS0321BRoundTripSaid : Prop := lawS0321BRoundTripRow.holds Yba.pinned (OpenSpec.ofChange lawS0321BRoundTripSpec)

/-- ITS FALSE NEIGHBOUR: 'it returns false'. Refute it at one input. -/
def lawS0321BRoundTripWrong : ChangeSpec := { name := "lawS0321BRoundTrip", fn := fun _ => fun
  | [d] => { results := [.lit (.bool false)], args := [d] }
  | _ => none }
def LawS0321BRoundTripWrongFalsely : Prop := lawS0321BRoundTripRow.holds Yba.pinned (OpenSpec.ofChange lawS0321BRoundTripWrong)

/-- 'store.LawS0321BSteady': WHATEVER THE INPUT: true; the input reads as it did. -/
def lawS0321BSteadySpec : ChangeSpec := { name := "lawS0321BSteady", fn := fun _ => fun
  | [d1, d2, d3] => { results := [.lit (.bool true)], args := [d1, d2, d3] }
  | _ => none }
def lawS0321BSteadyRow : OpenClaim := { program := "ybulkfpw", sum := "e6a9f1d51d397523d06e6f06c0a46f03ede01a9f1799e7487f1b68c3bf03385f", func := "example.com/coarsen/coarsen/store.LawS0321BSteady", spec := "lawS0321BSteady", apart := false }
def LawS0321BSteadySaid : Prop := lawS0321BSteadyRow.holds Yba.pinned (OpenSpec.ofChange lawS0321BSteadySpec)

/-- ITS FALSE NEIGHBOUR: 'it returns false'. Refute it at one input. -/
def lawS0321BSteadyWrong : ChangeSpec := { name := "lawS0321BSteady", fn := fun _ => fun
  | [d1, d2, d3] => { results := [.lit (.bool false)], args := [d1, d2, d3] }
  | _ => none }
def LawS0321BSteadyWrongFalsely : Prop := lawS0321BSteadyRow.holds Yba.pinned (OpenSpec.ofChange lawS0321BSteadyWrong)

end Rows
end Go.Proofs.Ybulkfpw
