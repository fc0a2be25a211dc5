/-
  DERIVED. GIVEN WITH THE SEED: THE CARDS: each row of Qxb6630584aFmtRows.lean that lists a variable, with what it lists TIED to the program's text (the seventh form; the later family's looks); each row that meets fmt, with fmt's text TOLD by the authors' own Lean function (tested against real Go, not proved from fmt's source: count such statements apart). THE CARD IS WHAT COUNTS. Prove the row's statement (the work); the ties are given (Qxb6630584aFmtTie.lean); close each card by the builder's one call (the guide's Derived/Test/ToyasCard.lean, 'card_holds'). Laid BY PROGRAM, IN A SANDBOX (cutbox-door.mjs). By AI agents, Wed Nov 11 2026. No macro, syntax, notation, axiom, sorry.
-/
import Derived.Test.Qxb6630584aFmtRows
import GoSem.ClaimSeven
namespace Go.Proofs.Qxb6630584aFmt
namespace Rows

/-- THE TOLD CARD OF 'zzlaws_root_b1.FnKindStringNamesKnownKindsApart'. -/
def fnKindStringNamesKnownKindsApartCard : Claim7 := { stood := { row := fnKindStringNamesKnownKindsApartRow, standIns := [], harness := (true, "4a75ce47000bfc669ae050066ff8c1781a462e7ae6f3488be7d6f7a68202068a"), looks := false }, told := true, goes := false }
def FnKindStringNamesKnownKindsApartToldSaid : Prop := Claim7.holds Tryf.pinned (.plain (OpenSpec.ofChange fnKindStringNamesKnownKindsApartSpec)) fnKindStringNamesKnownKindsApartCard
/-- ITS FALSE NEIGHBOUR. Refute it at one input. -/
def FnKindStringNamesKnownKindsApartToldWrongFalsely : Prop := Claim7.holds Tryf.pinned (.plain (OpenSpec.ofChange fnKindStringNamesKnownKindsApartWrong)) fnKindStringNamesKnownKindsApartCard
end Rows
end Go.Proofs.Qxb6630584aFmt
