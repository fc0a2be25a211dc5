/-
  No cell of these rows narrows 'for every input' (looked for: loops, veiled, ifaces, maps, wideKeys, modest, calm, conditions, laid).
  DERIVED. THE GIVEN ROWS OF THIS SEAT. 2 by the template 'for every input the law returns true; each argument reads behind the call as it read before'; 0 by the template 'total and deterministic' (their statements: Qxb6629355aTotals.lean).
  GIVEN WITH THE SEED: the statements are not yours to turn. If you find one false, say at which input.
  Laid BY PROGRAM, IN A SANDBOX (cutbox-rows.mjs): the forced cells as the released guide's own fill.sh prints them over the translation 221c5780389ed018… (all of the seat's roots in one cut). By AI agents, Wed Nov 11 2026. No macro, syntax, notation, axiom, sorry.
-/
import Derived.Test.Qxb6629355aChecked
import GoSem.Claim
import GoSem.ClaimJoined
import GoSem.ClaimMapViews
import Derived.JoinedTies
import Derived.KernelRfl
namespace Go.Proofs.Qxb6629355a
/- THE CELL 'sum', in the pinned program and in every row, IS THE sha256 OF THE DUMP (.gsa) THAT Qxb6629355aProg.lean LOADS. Nothing in Lean hashes anything: it is a label: what it is worth is what the hold of that sum in a sandbox is worth. -/
noncomputable def Try.pinned : Pinned := { name := "qxb6629355a", sum := "221c5780389ed01899b6b15cab7f2d17842f14dfeaaff62633f1592d94b269bf", checked := Try.checked }
namespace Rows
def none {H : Type} : Left H := { results := [], args := [] }

/-- 'zzlaws_internal_prompt_b1.FnAppendJSONEscapedIsTheCanonicalEscape': WHATEVER THE INPUT: true; the input reads as it did. -/
def fnAppendJSONEscapedIsTheCanonicalEscapeSpec : ChangeSpec := { name := "fnAppendJSONEscapedIsTheCanonicalEscape", fn := fun _ => fun
  | [d1, d2] => { results := [.lit (.bool true)], args := [d1, d2] }
  | _ => none }
def fnAppendJSONEscapedIsTheCanonicalEscapeRow : OpenClaim := { program := "qxb6629355a", sum := "221c5780389ed01899b6b15cab7f2d17842f14dfeaaff62633f1592d94b269bf", func := "example.com/mynah/mynah/zzlaws_internal_prompt_b1.FnAppendJSONEscapedIsTheCanonicalEscape", spec := "fnAppendJSONEscapedIsTheCanonicalEscape", apart := false }
def FnAppendJSONEscapedIsTheCanonicalEscapeSaid : Prop := fnAppendJSONEscapedIsTheCanonicalEscapeRow.holds Try.pinned (OpenSpec.ofChange fnAppendJSONEscapedIsTheCanonicalEscapeSpec)

/-- ITS FALSE NEIGHBOUR: 'it returns false'. Refute it at one input. -/
def fnAppendJSONEscapedIsTheCanonicalEscapeWrong : ChangeSpec := { name := "fnAppendJSONEscapedIsTheCanonicalEscape", fn := fun _ => fun
  | [d1, d2] => { results := [.lit (.bool false)], args := [d1, d2] }
  | _ => none }
def FnAppendJSONEscapedIsTheCanonicalEscapeWrongFalsely : Prop := fnAppendJSONEscapedIsTheCanonicalEscapeRow.holds Try.pinned (OpenSpec.ofChange fnAppendJSONEscapedIsTheCanonicalEscapeWrong)

/-- 'zzlaws_internal_prompt_b1.FnAppendJSONEscapedCutAnywhereAndByteByByte': WHATEVER THE INPUT: true; the input reads as it did. -/
def fnAppendJSONEscapedCutAnywhereAndByteByByteSpec : ChangeSpec := { name := "fnAppendJSONEscapedCutAnywhereAndByteByByte", fn := fun _ => fun
  | [d1, d2, d3] => { results := [.lit (.bool true)], args := [d1, d2, d3] }
  | _ => none }
def fnAppendJSONEscapedCutAnywhereAndByteByByteRow : OpenClaim := { program := "qxb6629355a", sum := "221c5780389ed01899b6b15cab7f2d17842f14dfeaaff62633f1592d94b269bf", func := "example.com/mynah/mynah/zzlaws_internal_prompt_b1.FnAppendJSONEscapedCutAnywhereAndByteByByte", spec := "fnAppendJSONEscapedCutAnywhereAndByteByByte", apart := false }
def FnAppendJSONEscapedCutAnywhereAndByteByByteSaid : Prop := fnAppendJSONEscapedCutAnywhereAndByteByByteRow.holds Try.pinned (OpenSpec.ofChange fnAppendJSONEscapedCutAnywhereAndByteByByteSpec)

/-- ITS FALSE NEIGHBOUR: 'it returns false'. Refute it at one input. -/
def fnAppendJSONEscapedCutAnywhereAndByteByByteWrong : ChangeSpec := { name := "fnAppendJSONEscapedCutAnywhereAndByteByByte", fn := fun _ => fun
  | [d1, d2, d3] => { results := [.lit (.bool false)], args := [d1, d2, d3] }
  | _ => none }
def FnAppendJSONEscapedCutAnywhereAndByteByByteWrongFalsely : Prop := fnAppendJSONEscapedCutAnywhereAndByteByByteRow.holds Try.pinned (OpenSpec.ofChange fnAppendJSONEscapedCutAnywhereAndByteByByteWrong)

end Rows
end Go.Proofs.Qxb6629355a
