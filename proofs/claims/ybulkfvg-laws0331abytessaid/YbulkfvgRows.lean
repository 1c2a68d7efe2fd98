/-
  No cell of these rows narrows 'for every input' (looked for: loops, veiled, ifaces, maps, wideKeys, modest, calm, conditions, laid).
  DERIVED. THE GIVEN ROWS OF THIS SEAT. 1 by the template 'for every input the law returns true; each argument reads behind the call as it read before'; 0 by the template 'total and deterministic' (their statements: YbulkfvgTotals.lean).
  GIVEN WITH THE SEED: the statements are not yours to turn. If you find one false, say at which input.
  Laid BY PROGRAM, IN A SANDBOX (cutbox-rows.mjs): the forced cells as the released guide's own fill.sh prints them over the translation 97b6db8701067600… (all of the seat's roots in one cut). By AI agents, Wed Nov 11 2026. No macro, syntax, notation, axiom, sorry.
-/
import Derived.Test.YbulkfvgChecked
import GoSem.Claim
import GoSem.ClaimJoined
import GoSem.ClaimMapViews
import Derived.JoinedTies
import Derived.KernelRfl
namespace Go.Proofs.Ybulkfvg
/- THE CELL 'sum', in the pinned program and in every row, IS THE sha256 OF THE DUMP (.gsa) THAT YbulkfvgProg.lean LOADS. Nothing in Lean hashes anything: it is a label: what it is worth is what the hold of that sum in a sandbox is worth. -/
noncomputable def Yba.pinned : Pinned := { name := "ybulkfvg", sum := "97b6db8701067600bda4e87b68ae1607263b2b58af7c83df8bacf9d28796a2d8", checked := Yba.checked }
namespace Rows
def none {H : Type} : Left H := { results := [], args := [] }

/-- 'tallyscope.LawS0331ABytes': WHATEVER THE INPUT: true; the input reads as it did. -/
def lawS0331ABytesSpec : ChangeSpec := { name := "lawS0331ABytes", fn := fun _ => fun
  | [d1, d2, d3, d4] => { results := [.lit (.bool true)], args := [d1, d2, d3, d4] }
  | _ => none }
def lawS0331ABytesRow : OpenClaim := { program := "ybulkfvg", sum := "97b6db8701067600bda4e87b68ae1607263b2b58af7c83df8bacf9d28796a2d8", func := "example.com/tallyscope/tallyscope.LawS0331ABytes", spec := "lawS0331ABytes", apart := false }
def LawS0331ABytesSaid : Prop := lawS0331ABytesRow.holds Yba.pinned (OpenSpec.ofChange lawS0331ABytesSpec)

/-- ITS FALSE NEIGHBOUR: 'it returns false'. Refute it at one input. -/
def lawS0331ABytesWrong : ChangeSpec := { name := "lawS0331ABytes", fn := fun _ => fun
  | [d1, d2, d3, d4] => { results := [.lit (.bool false)], args := [d1, d2, d3, d4] }
  | _ => none }
def LawS0331ABytesWrongFalsely : Prop := lawS0331ABytesRow.holds Yba.pinned (OpenSpec.ofChange lawS0331ABytesWrong)

end Rows
end Go.Proofs.Ybulkfvg
