/-
  DERIVED. GIVEN WITH THE SEED: THE CARDS: each row of Qxb6628172aFmtRows.lean that lists a variable, with what it lists TIED to the program's text (the seventh form; the later family's looks); each row that meets fmt, with fmt's text TOLD by the authors' own Lean function (tested against real Go, not proved from fmt's source: count such statements apart). THE CARD IS WHAT COUNTS. Prove the row's statement (the work); the ties are given (Qxb6628172aFmtTie.lean); close each card by the builder's one call (the guide's Derived/Test/ToyasCard.lean, 'card_holds'). Laid BY PROGRAM, IN A SANDBOX (cutbox-door.mjs). By AI agents, Wed Nov 11 2026. No macro, syntax, notation, axiom, sorry.
-/
import Derived.Test.Qxb6628172aFmtRows
import GoSem.ClaimSeven
namespace Go.Proofs.Qxb6628172aFmt
namespace Rows

/-- THE TOLD CARD OF 'zzlaws_pkg_identity_b1.FnCheckLabelCutAtAnyPlace'. -/
def fnCheckLabelCutAtAnyPlaceCard : Claim7 := { stood := { row := fnCheckLabelCutAtAnyPlaceRow, standIns := [], harness := (true, "5b2535799cc845c82dfbe34b1c89a41fa88c196278f12611eb1c084ac0fbe782"), looks := false }, told := true, goes := false }
def FnCheckLabelCutAtAnyPlaceToldSaid : Prop := Claim7.holds Tryf.pinned (.plain (OpenSpec.ofChange fnCheckLabelCutAtAnyPlaceSpec)) fnCheckLabelCutAtAnyPlaceCard
/-- ITS FALSE NEIGHBOUR. Refute it at one input. -/
def FnCheckLabelCutAtAnyPlaceToldWrongFalsely : Prop := Claim7.holds Tryf.pinned (.plain (OpenSpec.ofChange fnCheckLabelCutAtAnyPlaceWrong)) fnCheckLabelCutAtAnyPlaceCard
end Rows
end Go.Proofs.Qxb6628172aFmt
