/-
  No cell of these rows narrows 'for every input' (looked for: loops, veiled, ifaces, maps, wideKeys, modest, calm, conditions, laid).
  DERIVED. THE GIVEN ROWS OF THIS SEAT. 2 by the template 'for every input the law returns true; each argument reads behind the call as it read before'; 0 by the template 'total and deterministic' (their statements: Qxb6628294aTotals.lean).
  GIVEN WITH THE SEED: the statements are not yours to turn. If you find one false, say at which input.
  Laid BY PROGRAM, IN A SANDBOX (cutbox-rows.mjs): the forced cells as the released guide's own fill.sh prints them over the translation 54bcda40b8137abc… (all of the seat's roots in one cut). By AI agents, Wed Nov 11 2026. No macro, syntax, notation, axiom, sorry.
-/
import Derived.Test.Qxb6628294aChecked
import GoSem.Claim
import GoSem.ClaimJoined
import GoSem.ClaimMapViews
import Derived.JoinedTies
import Derived.KernelRfl
namespace Go.Proofs.Qxb6628294a
/- THE CELL 'sum', in the pinned program and in every row, IS THE sha256 OF THE DUMP (.gsa) THAT Qxb6628294aProg.lean LOADS. Nothing in Lean hashes anything: it is a label: what it is worth is what the hold of that sum in a sandbox is worth. -/
noncomputable def Try.pinned : Pinned := { name := "qxb6628294a", sum := "54bcda40b8137abc9e3a9bdc3ecf49d8bcf1fd894fd949ab3f659ac2b569a124", checked := Try.checked }
namespace Rows
def none {H : Type} : Left H := { results := [], args := [] }

/-- 'zzlaws_pkg_chunk_b1.FnPutKeepsExactlyTheLastValueOfEachKey': WHATEVER THE INPUT: true; the input reads as it did. -/
def fnPutKeepsExactlyTheLastValueOfEachKeySpec : ChangeSpec := { name := "fnPutKeepsExactlyTheLastValueOfEachKey", fn := fun _ => fun
  | [d1, d2] => { results := [.lit (.bool true)], args := [d1, d2] }
  | _ => none }
def fnPutKeepsExactlyTheLastValueOfEachKeyRow : OpenClaim := { program := "qxb6628294a", sum := "54bcda40b8137abc9e3a9bdc3ecf49d8bcf1fd894fd949ab3f659ac2b569a124", func := "example.com/muster/muster/zzlaws_pkg_chunk_b1.FnPutKeepsExactlyTheLastValueOfEachKey", spec := "fnPutKeepsExactlyTheLastValueOfEachKey", apart := false }
def FnPutKeepsExactlyTheLastValueOfEachKeySaid : Prop := fnPutKeepsExactlyTheLastValueOfEachKeyRow.holds Try.pinned (OpenSpec.ofChange fnPutKeepsExactlyTheLastValueOfEachKeySpec)

/-- ITS FALSE NEIGHBOUR: 'it returns false'. Refute it at one input. -/
def fnPutKeepsExactlyTheLastValueOfEachKeyWrong : ChangeSpec := { name := "fnPutKeepsExactlyTheLastValueOfEachKey", fn := fun _ => fun
  | [d1, d2] => { results := [.lit (.bool false)], args := [d1, d2] }
  | _ => none }
def FnPutKeepsExactlyTheLastValueOfEachKeyWrongFalsely : Prop := fnPutKeepsExactlyTheLastValueOfEachKeyRow.holds Try.pinned (OpenSpec.ofChange fnPutKeepsExactlyTheLastValueOfEachKeyWrong)

/-- 'zzlaws_pkg_chunk_b1.FnPutThenFindAgreesWithLastWrites': WHATEVER THE INPUT: true; the input reads as it did. -/
def fnPutThenFindAgreesWithLastWritesSpec : ChangeSpec := { name := "fnPutThenFindAgreesWithLastWrites", fn := fun _ => fun
  | [d1, d2, d3] => { results := [.lit (.bool true)], args := [d1, d2, d3] }
  | _ => none }
def fnPutThenFindAgreesWithLastWritesRow : OpenClaim := { program := "qxb6628294a", sum := "54bcda40b8137abc9e3a9bdc3ecf49d8bcf1fd894fd949ab3f659ac2b569a124", func := "example.com/muster/muster/zzlaws_pkg_chunk_b1.FnPutThenFindAgreesWithLastWrites", spec := "fnPutThenFindAgreesWithLastWrites", apart := false }
def FnPutThenFindAgreesWithLastWritesSaid : Prop := fnPutThenFindAgreesWithLastWritesRow.holds Try.pinned (OpenSpec.ofChange fnPutThenFindAgreesWithLastWritesSpec)

/-- ITS FALSE NEIGHBOUR: 'it returns false'. Refute it at one input. -/
def fnPutThenFindAgreesWithLastWritesWrong : ChangeSpec := { name := "fnPutThenFindAgreesWithLastWrites", fn := fun _ => fun
  | [d1, d2, d3] => { results := [.lit (.bool false)], args := [d1, d2, d3] }
  | _ => none }
def FnPutThenFindAgreesWithLastWritesWrongFalsely : Prop := fnPutThenFindAgreesWithLastWritesRow.holds Try.pinned (OpenSpec.ofChange fnPutThenFindAgreesWithLastWritesWrong)

end Rows
end Go.Proofs.Qxb6628294a
