/-
  No cell of these rows narrows 'for every input' (looked for: loops, veiled, ifaces, maps, wideKeys, modest, calm, conditions, laid).
  DERIVED. THE GIVEN ROWS OF THIS SEAT. 3 by the template 'for every input the law returns true; each argument reads behind the call as it read before'; 0 by the template 'total and deterministic' (their statements: YbulkfkmTotals.lean).
  GIVEN WITH THE SEED: the statements are not yours to turn. If you find one false, say at which input.
  Laid BY PROGRAM, IN A SANDBOX (cutbox-rows.mjs): the forced cells as the released guide's own fill.sh prints them over the translation 7d9eaca7d5532796… (all of the seat's roots in one cut). By AI agents, Wed Nov 11 2026. No macro, syntax, notation, axiom, sorry.
-/
import Derived.Test.YbulkfkmChecked
import GoSem.Claim
import GoSem.ClaimJoined
import GoSem.ClaimMapViews
import Derived.JoinedTies
import Derived.KernelRfl
namespace Go.Proofs.Ybulkfkm
/- THE CELL 'sum', in the pinned program and in every row, IS THE sha256 OF THE DUMP (.gsa) THAT YbulkfkmProg.lean LOADS. Nothing in Lean hashes anything: it is a label: what it is worth is what the hold of that sum in a sandbox is worth. -/
noncomputable def Yba.pinned : Pinned := { name := "ybulkfkm", sum := "7d9eaca7d5532796713d50ed932fbb993e93cf18d5b634778873dc73ab385a2b", checked := Yba.checked }
namespace Rows
def none {H : Type} : Left H := { results := [], args := [] }

/-- 'quorumsmith.LawS0311BDraws': WHATEVER THE INPUT: true; the input reads as it did. -/
def lawS0311BDrawsSpec : ChangeSpec := { name := "lawS0311BDraws", fn := fun _ => fun
  | [d1, d2, d3] => { results := [.lit (.bool true)], args := [d1, d2, d3] }
  | _ => none }
def lawS0311BDrawsRow : OpenClaim := { program := "ybulkfkm", sum := "7d9eaca7d5532796713d50ed932fbb993e93cf18d5b634778873dc73ab385a2b", func := "quorumsmith.example/quorumsmith.LawS0311BDraws", spec := "lawS0311BDraws", unfollowed := true, recurses := true, apart := false }
def LawS0311BDrawsSaid : Prop := lawS0311BDrawsRow.holds Yba.pinned (OpenSpec.ofChange lawS0311BDrawsSpec)

/-- ITS FALSE NEIGHBOUR: 'it returns false'. Refute it at one input. -/
def lawS0311BDrawsWrong : ChangeSpec := { name := "lawS0311BDraws", fn := fun _ => fun
  | [d1, d2, d3] => { results := [.lit (.bool false)], args := [d1, d2, d3] }
  | _ => none }
def LawS0311BDrawsWrongFalsely : Prop := lawS0311BDrawsRow.holds Yba.pinned (OpenSpec.ofChange lawS0311BDrawsWrong)

/-- 'quorumsmith.LawS0311CBound': WHATEVER THE INPUT: true; the input reads as it did. -/
def lawS0311CBoundSpec : ChangeSpec := { name := "lawS0311CBound", fn := fun _ => fun
  | [d1, d2, d3, d4, d5] => { results := [.lit (.bool true)], args := [d1, d2, d3, d4, d5] }
  | _ => none }
def lawS0311CBoundRow : OpenClaim := { program := "ybulkfkm", sum := "7d9eaca7d5532796713d50ed932fbb993e93cf18d5b634778873dc73ab385a2b", func := "quorumsmith.example/quorumsmith.LawS0311CBound", spec := "lawS0311CBound", apart := false }
def LawS0311CBoundSaid : Prop := lawS0311CBoundRow.holds Yba.pinned (OpenSpec.ofChange lawS0311CBoundSpec)

/-- ITS FALSE NEIGHBOUR: 'it returns false'. Refute it at one input. -/
def lawS0311CBoundWrong : ChangeSpec := { name := "lawS0311CBound", fn := fun _ => fun
  | [d1, d2, d3, d4, d5] => { results := [.lit (.bool false)], args := [d1, d2, d3, d4, d5] }
  | _ => none }
def LawS0311CBoundWrongFalsely : Prop := lawS0311CBoundRow.holds Yba.pinned (OpenSpec.ofChange lawS0311CBoundWrong)

/-- 'quorumsmith.LawS0311CSteps': WHATEVER THE INPUT: true; the input reads as it did. -/
def lawS0311CStepsSpec : ChangeSpec := { name := "lawS0311CSteps", fn := fun _ => fun
  | [d1, d2, d3, d4] => { results := [.lit (.bool true)], args := [d1, d2, d3, d4] }
  | _ => none }
def lawS0311CStepsRow : OpenClaim := { program := "ybulkfkm", sum := "7d9eaca7d5532796713d50ed932fbb993e93cf18d5b634778873dc73ab385a2b", func := "quorumsmith.example/quorumsmith.LawS0311CSteps", spec := "lawS0311CSteps", apart := false }
def LawS0311CStepsSaid : Prop := lawS0311CStepsRow.holds Yba.pinned (OpenSpec.ofChange lawS0311CStepsSpec)

/-- ITS FALSE NEIGHBOUR: 'it returns false'. Refute it at one input. -/
def lawS0311CStepsWrong : ChangeSpec := { name := "lawS0311CSteps", fn := fun _ => fun
  | [d1, d2, d3, d4] => { results := [.lit (.bool false)], args := [d1, d2, d3, d4] }
  | _ => none }
def LawS0311CStepsWrongFalsely : Prop := lawS0311CStepsRow.holds Yba.pinned (OpenSpec.ofChange lawS0311CStepsWrong)

end Rows
end Go.Proofs.Ybulkfkm
