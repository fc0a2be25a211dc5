/-
  No cell of these rows narrows 'for every input' (looked for: loops, veiled, ifaces, maps, wideKeys, modest, calm, conditions, laid).
  DERIVED. THE GIVEN ROWS OF THIS SEAT. 2 by the template 'for every input the law returns true; each argument reads behind the call as it read before'; 0 by the template 'total and deterministic' (their statements: Qxb6629292aTotals.lean).
  GIVEN WITH THE SEED: the statements are not yours to turn. If you find one false, say at which input.
  Laid BY PROGRAM, IN A SANDBOX (cutbox-rows.mjs): the forced cells as the released guide's own fill.sh prints them over the translation 87e85740ac973527… (all of the seat's roots in one cut). By AI agents, Wed Nov 11 2026. No macro, syntax, notation, axiom, sorry.
-/
import Derived.Test.Qxb6629292aChecked
import GoSem.Claim
import GoSem.ClaimJoined
import GoSem.ClaimMapViews
import Derived.JoinedTies
import Derived.KernelRfl
namespace Go.Proofs.Qxb6629292a
/- THE CELL 'sum', in the pinned program and in every row, IS THE sha256 OF THE DUMP (.gsa) THAT Qxb6629292aProg.lean LOADS. Nothing in Lean hashes anything: it is a label: what it is worth is what the hold of that sum in a sandbox is worth. -/
noncomputable def Try.pinned : Pinned := { name := "qxb6629292a", sum := "87e85740ac9735276db102fd87a41465274c9a5bcc59ae96a6e7bc90d5a76bb5", checked := Try.checked }
namespace Rows
def none {H : Type} : Left H := { results := [], args := [] }

/-- 'zzlaws_root_b1.FnBelowMatchesRootDigitPath': WHATEVER THE INPUT: true; the input reads as it did. -/
def fnBelowMatchesRootDigitPathSpec : ChangeSpec := { name := "fnBelowMatchesRootDigitPath", fn := fun _ => fun
  | [d1, d2, d3, d4, d5, d6, d7, d8, d9, d10] => { results := [.lit (.bool true)], args := [d1, d2, d3, d4, d5, d6, d7, d8, d9, d10] }
  | _ => none }
def fnBelowMatchesRootDigitPathRow : OpenClaim := { program := "qxb6629292a", sum := "87e85740ac9735276db102fd87a41465274c9a5bcc59ae96a6e7bc90d5a76bb5", func := "example.com/cairnmesh/cairnmesh/zzlaws_root_b1.FnBelowMatchesRootDigitPath", spec := "fnBelowMatchesRootDigitPath", inPlace := ["math.archFloor", "math.Float64bits", "math.Float64frombits", "math.archTrunc"], apart := false }
def FnBelowMatchesRootDigitPathSaid : Prop := fnBelowMatchesRootDigitPathRow.holds Try.pinned (OpenSpec.ofChange fnBelowMatchesRootDigitPathSpec)

/-- ITS FALSE NEIGHBOUR: 'it returns false'. Refute it at one input. -/
def fnBelowMatchesRootDigitPathWrong : ChangeSpec := { name := "fnBelowMatchesRootDigitPath", fn := fun _ => fun
  | [d1, d2, d3, d4, d5, d6, d7, d8, d9, d10] => { results := [.lit (.bool false)], args := [d1, d2, d3, d4, d5, d6, d7, d8, d9, d10] }
  | _ => none }
def FnBelowMatchesRootDigitPathWrongFalsely : Prop := fnBelowMatchesRootDigitPathRow.holds Try.pinned (OpenSpec.ofChange fnBelowMatchesRootDigitPathWrong)

/-- 'zzlaws_root_b1.FnBelowDescendsThroughLeftOutChild': WHATEVER THE INPUT: true; the input reads as it did. -/
def fnBelowDescendsThroughLeftOutChildSpec : ChangeSpec := { name := "fnBelowDescendsThroughLeftOutChild", fn := fun _ => fun
  | [d1, d2, d3, d4, d5, d6, d7, d8, d9, d10] => { results := [.lit (.bool true)], args := [d1, d2, d3, d4, d5, d6, d7, d8, d9, d10] }
  | _ => none }
def fnBelowDescendsThroughLeftOutChildRow : OpenClaim := { program := "qxb6629292a", sum := "87e85740ac9735276db102fd87a41465274c9a5bcc59ae96a6e7bc90d5a76bb5", func := "example.com/cairnmesh/cairnmesh/zzlaws_root_b1.FnBelowDescendsThroughLeftOutChild", spec := "fnBelowDescendsThroughLeftOutChild", inPlace := ["math.archFloor", "math.Float64bits", "math.Float64frombits", "math.archTrunc"], apart := false }
def FnBelowDescendsThroughLeftOutChildSaid : Prop := fnBelowDescendsThroughLeftOutChildRow.holds Try.pinned (OpenSpec.ofChange fnBelowDescendsThroughLeftOutChildSpec)

/-- ITS FALSE NEIGHBOUR: 'it returns false'. Refute it at one input. -/
def fnBelowDescendsThroughLeftOutChildWrong : ChangeSpec := { name := "fnBelowDescendsThroughLeftOutChild", fn := fun _ => fun
  | [d1, d2, d3, d4, d5, d6, d7, d8, d9, d10] => { results := [.lit (.bool false)], args := [d1, d2, d3, d4, d5, d6, d7, d8, d9, d10] }
  | _ => none }
def FnBelowDescendsThroughLeftOutChildWrongFalsely : Prop := fnBelowDescendsThroughLeftOutChildRow.holds Try.pinned (OpenSpec.ofChange fnBelowDescendsThroughLeftOutChildWrong)

end Rows
end Go.Proofs.Qxb6629292a
