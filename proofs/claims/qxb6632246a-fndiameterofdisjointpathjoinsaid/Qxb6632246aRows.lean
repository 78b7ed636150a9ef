/-
  No cell of these rows narrows 'for every input' (looked for: loops, veiled, ifaces, maps, wideKeys, modest, calm, conditions, laid).
  DERIVED. THE GIVEN ROWS OF THIS SEAT. 2 by the template 'for every input the law returns true; each argument reads behind the call as it read before'; 0 by the template 'total and deterministic' (their statements: Qxb6632246aTotals.lean).
  GIVEN WITH THE SEED: the statements are not yours to turn. If you find one false, say at which input.
  Laid BY PROGRAM, IN A SANDBOX (cutbox-rows.mjs): the forced cells as the released guide's own fill.sh prints them over the translation e818bdfc35dcbe60… (all of the seat's roots in one cut). By AI agents, Wed Nov 11 2026. No macro, syntax, notation, axiom, sorry.
-/
import Derived.Test.Qxb6632246aChecked
import GoSem.Claim
import GoSem.ClaimJoined
import GoSem.ClaimMapViews
import Derived.JoinedTies
import Derived.KernelRfl
namespace Go.Proofs.Qxb6632246a
/- THE CELL 'sum', in the pinned program and in every row, IS THE sha256 OF THE DUMP (.gsa) THAT Qxb6632246aProg.lean LOADS. Nothing in Lean hashes anything: it is a label: what it is worth is what the hold of that sum in a sandbox is worth. -/
noncomputable def Try.pinned : Pinned := { name := "qxb6632246a", sum := "e818bdfc35dcbe6077617b36cdb9df8157fe3283f3c81f19b5bfefc552a4d45a", checked := Try.checked }
namespace Rows
def none {H : Type} : Left H := { results := [], args := [] }

/-- 'zzlaws_links_b1.FnDiameterIsLongestShortestPath': WHATEVER THE INPUT: true; the input reads as it did. -/
def fnDiameterIsLongestShortestPathSpec : ChangeSpec := { name := "fnDiameterIsLongestShortestPath", fn := fun _ => fun
  | [d1, d2] => { results := [.lit (.bool true)], args := [d1, d2] }
  | _ => none }
def fnDiameterIsLongestShortestPathRow : OpenClaim := { program := "qxb6632246a", sum := "e818bdfc35dcbe6077617b36cdb9df8157fe3283f3c81f19b5bfefc552a4d45a", func := "example.com/driftcommit/driftcommit/zzlaws_links_b1.FnDiameterIsLongestShortestPath", spec := "fnDiameterIsLongestShortestPath", apart := false }
def FnDiameterIsLongestShortestPathSaid : Prop := fnDiameterIsLongestShortestPathRow.holds Try.pinned (OpenSpec.ofChange fnDiameterIsLongestShortestPathSpec)

/-- ITS FALSE NEIGHBOUR: 'it returns false'. Refute it at one input. -/
def fnDiameterIsLongestShortestPathWrong : ChangeSpec := { name := "fnDiameterIsLongestShortestPath", fn := fun _ => fun
  | [d1, d2] => { results := [.lit (.bool false)], args := [d1, d2] }
  | _ => none }
def FnDiameterIsLongestShortestPathWrongFalsely : Prop := fnDiameterIsLongestShortestPathRow.holds Try.pinned (OpenSpec.ofChange fnDiameterIsLongestShortestPathWrong)

/-- 'zzlaws_links_b1.FnDiameterOfDisjointPathJoin': WHATEVER THE INPUT: true; the input reads as it did. -/
def fnDiameterOfDisjointPathJoinSpec : ChangeSpec := { name := "fnDiameterOfDisjointPathJoin", fn := fun _ => fun
  | [d1, d2, d3, d4] => { results := [.lit (.bool true)], args := [d1, d2, d3, d4] }
  | _ => none }
def fnDiameterOfDisjointPathJoinRow : OpenClaim := { program := "qxb6632246a", sum := "e818bdfc35dcbe6077617b36cdb9df8157fe3283f3c81f19b5bfefc552a4d45a", func := "example.com/driftcommit/driftcommit/zzlaws_links_b1.FnDiameterOfDisjointPathJoin", spec := "fnDiameterOfDisjointPathJoin", apart := false }
def FnDiameterOfDisjointPathJoinSaid : Prop := fnDiameterOfDisjointPathJoinRow.holds Try.pinned (OpenSpec.ofChange fnDiameterOfDisjointPathJoinSpec)

/-- ITS FALSE NEIGHBOUR: 'it returns false'. Refute it at one input. -/
def fnDiameterOfDisjointPathJoinWrong : ChangeSpec := { name := "fnDiameterOfDisjointPathJoin", fn := fun _ => fun
  | [d1, d2, d3, d4] => { results := [.lit (.bool false)], args := [d1, d2, d3, d4] }
  | _ => none }
def FnDiameterOfDisjointPathJoinWrongFalsely : Prop := fnDiameterOfDisjointPathJoinRow.holds Try.pinned (OpenSpec.ofChange fnDiameterOfDisjointPathJoinWrong)

end Rows
end Go.Proofs.Qxb6632246a
