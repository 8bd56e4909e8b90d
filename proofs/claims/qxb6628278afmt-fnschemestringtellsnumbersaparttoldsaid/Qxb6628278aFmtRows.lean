/-
  No cell of these rows narrows 'for every input' (looked for: loops, veiled, ifaces, maps, wideKeys, modest, calm, conditions, laid).
  DERIVED. THE GIVEN ROWS OF THIS SEAT. 1 by the template 'for every input the law returns true; each argument reads behind the call as it read before'; 0 by the template 'total and deterministic' (their statements: Qxb6628278aFmtTotals.lean).
  GIVEN WITH THE SEED: the statements are not yours to turn. If you find one false, say at which input.
  Laid BY PROGRAM, IN A SANDBOX (cutbox-rows.mjs): the forced cells as the released guide's own fill.sh prints them over the translation 98ddd28c912f2c34… (all of the seat's roots in one cut). By AI agents, Wed Nov 11 2026. No macro, syntax, notation, axiom, sorry.
-/
import Derived.Test.Qxb6628278aFmtChecked
import GoSem.Claim
import GoSem.ClaimJoined
import GoSem.ClaimMapViews
import Derived.JoinedTies
import Derived.KernelRfl
namespace Go.Proofs.Qxb6628278aFmt
/- THE CELL 'sum', in the pinned program and in every row, IS THE sha256 OF THE DUMP (.gsa) THAT Qxb6628278aFmtProg.lean LOADS. Nothing in Lean hashes anything: it is a label: what it is worth is what the hold of that sum in a sandbox is worth. -/
noncomputable def Tryf.pinned : Pinned := { name := "qxb6628278afmt", sum := "98ddd28c912f2c34ff615983fbc018af88491649ffe78badb72cc49e1618af78", checked := Tryf.checked }
namespace Rows
def none {H : Type} : Left H := { results := [], args := [] }

/-- 'zzlaws_pkg_suci_b1.FnSchemeStringTellsNumbersApart': WHATEVER THE INPUT: true; the input reads as it did. -/
def fnSchemeStringTellsNumbersApartSpec : ChangeSpec := { name := "fnSchemeStringTellsNumbersApart", fn := fun _ => fun
  | [d1, d2] => { results := [.lit (.bool true)], args := [d1, d2] }
  | _ => none }
def fnSchemeStringTellsNumbersApartRow : OpenClaim := { program := "qxb6628278afmt", sum := "98ddd28c912f2c34ff615983fbc018af88491649ffe78badb72cc49e1618af78", func := "example.com/honeyguide/honeyguide/zzlaws_pkg_suci_b1.FnSchemeStringTellsNumbersApart", spec := "fnSchemeStringTellsNumbersApart", stops := ["fmt.Sprintf"], inPlace := ["fmt.Sprintf"], apart := false }
/-- NO THEOREM (fmt's text is open here; it may be false): for the released tool's asking of the row's closed facts alone. THE STATEMENT IS 'FnSchemeStringTellsNumbersApartToldSaid' (Qxb6628278aFmtCards.lean). -/
def FnSchemeStringTellsNumbersApartFormAsk : Prop := fnSchemeStringTellsNumbersApartRow.holds Tryf.pinned (OpenSpec.ofChange fnSchemeStringTellsNumbersApartSpec)

/-- ITS FALSE NEIGHBOUR: 'it returns false'. Refute it at one input. -/
def fnSchemeStringTellsNumbersApartWrong : ChangeSpec := { name := "fnSchemeStringTellsNumbersApart", fn := fun _ => fun
  | [d1, d2] => { results := [.lit (.bool false)], args := [d1, d2] }
  | _ => none }
def FnSchemeStringTellsNumbersApartWrongFormAsk : Prop := fnSchemeStringTellsNumbersApartRow.holds Tryf.pinned (OpenSpec.ofChange fnSchemeStringTellsNumbersApartWrong)

end Rows
end Go.Proofs.Qxb6628278aFmt
