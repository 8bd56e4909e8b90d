/-
  No cell of these rows narrows 'for every input' (looked for: loops, veiled, ifaces, maps, wideKeys, modest, calm, conditions, laid).
  DERIVED. THE GIVEN ROWS OF THIS SEAT. 1 by the template 'for every input the law returns true; each argument reads behind the call as it read before'; 0 by the template 'total and deterministic' (their statements: Qxb6628172aFmtTotals.lean).
  GIVEN WITH THE SEED: the statements are not yours to turn. If you find one false, say at which input.
  Laid BY PROGRAM, IN A SANDBOX (cutbox-rows.mjs): the forced cells as the released guide's own fill.sh prints them over the translation 7a0a24dd48cd887f… (all of the seat's roots in one cut). By AI agents, Wed Nov 11 2026. No macro, syntax, notation, axiom, sorry.
-/
import Derived.Test.Qxb6628172aFmtChecked
import GoSem.Claim
import GoSem.ClaimJoined
import GoSem.ClaimMapViews
import Derived.JoinedTies
import Derived.KernelRfl
namespace Go.Proofs.Qxb6628172aFmt
/- THE CELL 'sum', in the pinned program and in every row, IS THE sha256 OF THE DUMP (.gsa) THAT Qxb6628172aFmtProg.lean LOADS. Nothing in Lean hashes anything: it is a label: what it is worth is what the hold of that sum in a sandbox is worth. -/
noncomputable def Tryf.pinned : Pinned := { name := "qxb6628172afmt", sum := "7a0a24dd48cd887fa8db10c7328f3086e6d0c5e3869580845baa7d1b474b76a1", checked := Tryf.checked }
namespace Rows
def none {H : Type} : Left H := { results := [], args := [] }

/-- 'zzlaws_pkg_identity_b1.FnCheckLabelCutAtAnyPlace': WHATEVER THE INPUT: true; the input reads as it did. -/
def fnCheckLabelCutAtAnyPlaceSpec : ChangeSpec := { name := "fnCheckLabelCutAtAnyPlace", fn := fun _ => fun
  | [d1, d2] => { results := [.lit (.bool true)], args := [d1, d2] }
  | _ => none }
def fnCheckLabelCutAtAnyPlaceRow : OpenClaim := { program := "qxb6628172afmt", sum := "7a0a24dd48cd887fa8db10c7328f3086e6d0c5e3869580845baa7d1b474b76a1", func := "example.com/weftnet/weftnet/zzlaws_pkg_identity_b1.FnCheckLabelCutAtAnyPlace", spec := "fnCheckLabelCutAtAnyPlace", stops := ["fmt.errorf"], inPlace := ["fmt.errorf"], apart := false }
/-- NO THEOREM (fmt's text is open here; it may be false): for the released tool's asking of the row's closed facts alone. THE STATEMENT IS 'FnCheckLabelCutAtAnyPlaceToldSaid' (Qxb6628172aFmtCards.lean). -/
def FnCheckLabelCutAtAnyPlaceFormAsk : Prop := fnCheckLabelCutAtAnyPlaceRow.holds Tryf.pinned (OpenSpec.ofChange fnCheckLabelCutAtAnyPlaceSpec)

/-- ITS FALSE NEIGHBOUR: 'it returns false'. Refute it at one input. -/
def fnCheckLabelCutAtAnyPlaceWrong : ChangeSpec := { name := "fnCheckLabelCutAtAnyPlace", fn := fun _ => fun
  | [d1, d2] => { results := [.lit (.bool false)], args := [d1, d2] }
  | _ => none }
def FnCheckLabelCutAtAnyPlaceWrongFormAsk : Prop := fnCheckLabelCutAtAnyPlaceRow.holds Tryf.pinned (OpenSpec.ofChange fnCheckLabelCutAtAnyPlaceWrong)

end Rows
end Go.Proofs.Qxb6628172aFmt
