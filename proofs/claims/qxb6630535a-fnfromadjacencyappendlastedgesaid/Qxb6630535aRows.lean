/-
  No cell of these rows narrows 'for every input' (looked for: loops, veiled, ifaces, maps, wideKeys, modest, calm, conditions, laid).
  DERIVED. THE GIVEN ROWS OF THIS SEAT. 1 by the template 'for every input the law returns true; each argument reads behind the call as it read before'; 0 by the template 'total and deterministic' (their statements: Qxb6630535aTotals.lean).
  GIVEN WITH THE SEED: the statements are not yours to turn. If you find one false, say at which input.
  Laid BY PROGRAM, IN A SANDBOX (cutbox-rows.mjs): the forced cells as the released guide's own fill.sh prints them over the translation 694e2dcf9c5bfc3e… (all of the seat's roots in one cut). By AI agents, Wed Nov 11 2026. No macro, syntax, notation, axiom, sorry.
-/
import Derived.Test.Qxb6630535aChecked
import GoSem.Claim
import GoSem.ClaimJoined
import GoSem.ClaimMapViews
import Derived.JoinedTies
import Derived.KernelRfl
namespace Go.Proofs.Qxb6630535a
/- THE CELL 'sum', in the pinned program and in every row, IS THE sha256 OF THE DUMP (.gsa) THAT Qxb6630535aProg.lean LOADS. Nothing in Lean hashes anything: it is a label: what it is worth is what the hold of that sum in a sandbox is worth. -/
noncomputable def Try.pinned : Pinned := { name := "qxb6630535a", sum := "694e2dcf9c5bfc3ecb3a13e7836edda51ef55741e956a8028311c49b1c02a068", checked := Try.checked }
namespace Rows
def none {H : Type} : Left H := { results := [], args := [] }

/-- 'zzlaws_internal_graph_b1.FnFromAdjacencyAppendLastEdge': WHATEVER THE INPUT: true; the input reads as it did. -/
def fnFromAdjacencyAppendLastEdgeSpec : ChangeSpec := { name := "fnFromAdjacencyAppendLastEdge", fn := fun _ => fun
  | [d1, d2, d3, d4] => { results := [.lit (.bool true)], args := [d1, d2, d3, d4] }
  | _ => none }
def fnFromAdjacencyAppendLastEdgeRow : OpenClaim := { program := "qxb6630535a", sum := "694e2dcf9c5bfc3ecb3a13e7836edda51ef55741e956a8028311c49b1c02a068", func := "example.com/cleave/cleave/zzlaws_internal_graph_b1.FnFromAdjacencyAppendLastEdge", spec := "fnFromAdjacencyAppendLastEdge", apart := false }
def FnFromAdjacencyAppendLastEdgeSaid : Prop := fnFromAdjacencyAppendLastEdgeRow.holds Try.pinned (OpenSpec.ofChange fnFromAdjacencyAppendLastEdgeSpec)

/-- ITS FALSE NEIGHBOUR: 'it returns false'. Refute it at one input. -/
def fnFromAdjacencyAppendLastEdgeWrong : ChangeSpec := { name := "fnFromAdjacencyAppendLastEdge", fn := fun _ => fun
  | [d1, d2, d3, d4] => { results := [.lit (.bool false)], args := [d1, d2, d3, d4] }
  | _ => none }
def FnFromAdjacencyAppendLastEdgeWrongFalsely : Prop := fnFromAdjacencyAppendLastEdgeRow.holds Try.pinned (OpenSpec.ofChange fnFromAdjacencyAppendLastEdgeWrong)

end Rows
end Go.Proofs.Qxb6630535a
