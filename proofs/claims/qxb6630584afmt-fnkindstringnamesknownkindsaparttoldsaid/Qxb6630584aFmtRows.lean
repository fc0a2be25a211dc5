/-
  No cell of these rows narrows 'for every input' (looked for: loops, veiled, ifaces, maps, wideKeys, modest, calm, conditions, laid).
  DERIVED. THE GIVEN ROWS OF THIS SEAT. 1 by the template 'for every input the law returns true; each argument reads behind the call as it read before'; 0 by the template 'total and deterministic' (their statements: Qxb6630584aFmtTotals.lean).
  GIVEN WITH THE SEED: the statements are not yours to turn. If you find one false, say at which input.
  Laid BY PROGRAM, IN A SANDBOX (cutbox-rows.mjs): the forced cells as the released guide's own fill.sh prints them over the translation fd9d384bc1a082ef… (all of the seat's roots in one cut). By AI agents, Wed Nov 11 2026. No macro, syntax, notation, axiom, sorry.
-/
import Derived.Test.Qxb6630584aFmtChecked
import GoSem.Claim
import GoSem.ClaimJoined
import GoSem.ClaimMapViews
import Derived.JoinedTies
import Derived.KernelRfl
namespace Go.Proofs.Qxb6630584aFmt
/- THE CELL 'sum', in the pinned program and in every row, IS THE sha256 OF THE DUMP (.gsa) THAT Qxb6630584aFmtProg.lean LOADS. Nothing in Lean hashes anything: it is a label: what it is worth is what the hold of that sum in a sandbox is worth. -/
noncomputable def Tryf.pinned : Pinned := { name := "qxb6630584afmt", sum := "fd9d384bc1a082ef52c74bef8eac2ae5cd150020018de941f782505fde4780fd", checked := Tryf.checked }
namespace Rows
def none {H : Type} : Left H := { results := [], args := [] }

/-- 'zzlaws_root_b1.FnKindStringNamesKnownKindsApart': WHATEVER THE INPUT: true; the input reads as it did. -/
def fnKindStringNamesKnownKindsApartSpec : ChangeSpec := { name := "fnKindStringNamesKnownKindsApart", fn := fun _ => fun
  | [d1, d2] => { results := [.lit (.bool true)], args := [d1, d2] }
  | _ => none }
def fnKindStringNamesKnownKindsApartRow : OpenClaim := { program := "qxb6630584afmt", sum := "fd9d384bc1a082ef52c74bef8eac2ae5cd150020018de941f782505fde4780fd", func := "example.com/message-redelivery/message-redelivery/zzlaws_root_b1.FnKindStringNamesKnownKindsApart", spec := "fnKindStringNamesKnownKindsApart", stops := ["fmt.Sprintf"], inPlace := ["fmt.Sprintf"], apart := false }
/-- NO THEOREM (fmt's text is open here; it may be false): for the released tool's asking of the row's closed facts alone. THE STATEMENT IS 'FnKindStringNamesKnownKindsApartToldSaid' (Qxb6630584aFmtCards.lean). -/
def FnKindStringNamesKnownKindsApartFormAsk : Prop := fnKindStringNamesKnownKindsApartRow.holds Tryf.pinned (OpenSpec.ofChange fnKindStringNamesKnownKindsApartSpec)

/-- ITS FALSE NEIGHBOUR: 'it returns false'. Refute it at one input. -/
def fnKindStringNamesKnownKindsApartWrong : ChangeSpec := { name := "fnKindStringNamesKnownKindsApart", fn := fun _ => fun
  | [d1, d2] => { results := [.lit (.bool false)], args := [d1, d2] }
  | _ => none }
def FnKindStringNamesKnownKindsApartWrongFormAsk : Prop := fnKindStringNamesKnownKindsApartRow.holds Tryf.pinned (OpenSpec.ofChange fnKindStringNamesKnownKindsApartWrong)

end Rows
end Go.Proofs.Qxb6630584aFmt
