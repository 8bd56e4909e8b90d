/-
  DERIVED. GIVEN WITH THE SEED: THE CARDS: each row of Qxb6628278aFmtRows.lean that lists a variable, with what it lists TIED to the program's text (the seventh form; the later family's looks); each row that meets fmt, with fmt's text TOLD by the authors' own Lean function (tested against real Go, not proved from fmt's source: count such statements apart). THE CARD IS WHAT COUNTS. Prove the row's statement (the work); the ties are given (Qxb6628278aFmtTie.lean); close each card by the builder's one call (the guide's Derived/Test/ToyasCard.lean, 'card_holds'). Laid BY PROGRAM, IN A SANDBOX (cutbox-door.mjs). By AI agents, Wed Nov 11 2026. No macro, syntax, notation, axiom, sorry.
-/
import Derived.Test.Qxb6628278aFmtRows
import GoSem.ClaimSeven
namespace Go.Proofs.Qxb6628278aFmt
namespace Rows

/-- THE TOLD CARD OF 'zzlaws_pkg_suci_b1.FnSchemeStringTellsNumbersApart'. -/
def fnSchemeStringTellsNumbersApartCard : Claim7 := { stood := { row := fnSchemeStringTellsNumbersApartRow, standIns := [], harness := (true, "fcae1b0a68ed4c0e300b06ed00af9e27a2de9e350fbf6139173d841d24e29bb9"), looks := false }, told := true, goes := false }
def FnSchemeStringTellsNumbersApartToldSaid : Prop := Claim7.holds Tryf.pinned (.plain (OpenSpec.ofChange fnSchemeStringTellsNumbersApartSpec)) fnSchemeStringTellsNumbersApartCard
/-- ITS FALSE NEIGHBOUR. Refute it at one input. -/
def FnSchemeStringTellsNumbersApartToldWrongFalsely : Prop := Claim7.holds Tryf.pinned (.plain (OpenSpec.ofChange fnSchemeStringTellsNumbersApartWrong)) fnSchemeStringTellsNumbersApartCard
end Rows
end Go.Proofs.Qxb6628278aFmt
