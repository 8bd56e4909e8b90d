/-
  No cell of these rows narrows 'for every input' (looked for: loops, veiled, ifaces, maps, wideKeys, modest, calm, conditions, laid).
  DERIVED. THE GIVEN ROWS OF THIS SEAT. 2 by the template 'for every input the law returns true; each argument reads behind the call as it read before'; 0 by the template 'total and deterministic' (their statements: Qxb6627863aTotals.lean).
  GIVEN WITH THE SEED: the statements are not yours to turn. If you find one false, say at which input.
  Laid BY PROGRAM, IN A SANDBOX (cutbox-rows.mjs): the forced cells as the released guide's own fill.sh prints them over the translation 4118c314450d4a98… (all of the seat's roots in one cut). By AI agents, Wed Nov 11 2026. No macro, syntax, notation, axiom, sorry.
-/
import Derived.Test.Qxb6627863aChecked
import GoSem.Claim
import GoSem.ClaimJoined
import GoSem.ClaimMapViews
import Derived.JoinedTies
import Derived.KernelRfl
namespace Go.Proofs.Qxb6627863a
/- THE CELL 'sum', in the pinned program and in every row, IS THE sha256 OF THE DUMP (.gsa) THAT Qxb6627863aProg.lean LOADS. Nothing in Lean hashes anything: it is a label: what it is worth is what the hold of that sum in a sandbox is worth. -/
noncomputable def Try.pinned : Pinned := { name := "qxb6627863a", sum := "4118c314450d4a984499c794c3e36d1988adc002f2547f40c4e73a6f778e58c6", checked := Try.checked }
namespace Rows
def none {H : Type} : Left H := { results := [], args := [] }

/-- 'zzlaws_internal_apikey_b1.FnValidPrefixInsertOneByte': WHATEVER THE INPUT: true; the input reads as it did. -/
def fnValidPrefixInsertOneByteSpec : ChangeSpec := { name := "fnValidPrefixInsertOneByte", fn := fun _ => fun
  | [d1, d2, d3] => { results := [.lit (.bool true)], args := [d1, d2, d3] }
  | _ => none }
def fnValidPrefixInsertOneByteRow : OpenClaim := { program := "qxb6627863a", sum := "4118c314450d4a984499c794c3e36d1988adc002f2547f40c4e73a6f778e58c6", func := "example.com/fresh-keys/fresh-keys/zzlaws_internal_apikey_b1.FnValidPrefixInsertOneByte", spec := "fnValidPrefixInsertOneByte", apart := false }
def FnValidPrefixInsertOneByteSaid : Prop := fnValidPrefixInsertOneByteRow.holds Try.pinned (OpenSpec.ofChange fnValidPrefixInsertOneByteSpec)

/-- ITS FALSE NEIGHBOUR: 'it returns false'. Refute it at one input. -/
def fnValidPrefixInsertOneByteWrong : ChangeSpec := { name := "fnValidPrefixInsertOneByte", fn := fun _ => fun
  | [d1, d2, d3] => { results := [.lit (.bool false)], args := [d1, d2, d3] }
  | _ => none }
def FnValidPrefixInsertOneByteWrongFalsely : Prop := fnValidPrefixInsertOneByteRow.holds Try.pinned (OpenSpec.ofChange fnValidPrefixInsertOneByteWrong)

/-- 'zzlaws_internal_apikey_b1.FnValidPrefixInnerKeyPrefixIsHarmless': WHATEVER THE INPUT: true; the input reads as it did. -/
def fnValidPrefixInnerKeyPrefixIsHarmlessSpec : ChangeSpec := { name := "fnValidPrefixInnerKeyPrefixIsHarmless", fn := fun _ => fun
  | [d1, d2] => { results := [.lit (.bool true)], args := [d1, d2] }
  | _ => none }
def fnValidPrefixInnerKeyPrefixIsHarmlessRow : OpenClaim := { program := "qxb6627863a", sum := "4118c314450d4a984499c794c3e36d1988adc002f2547f40c4e73a6f778e58c6", func := "example.com/fresh-keys/fresh-keys/zzlaws_internal_apikey_b1.FnValidPrefixInnerKeyPrefixIsHarmless", spec := "fnValidPrefixInnerKeyPrefixIsHarmless", apart := false }
def FnValidPrefixInnerKeyPrefixIsHarmlessSaid : Prop := fnValidPrefixInnerKeyPrefixIsHarmlessRow.holds Try.pinned (OpenSpec.ofChange fnValidPrefixInnerKeyPrefixIsHarmlessSpec)

/-- ITS FALSE NEIGHBOUR: 'it returns false'. Refute it at one input. -/
def fnValidPrefixInnerKeyPrefixIsHarmlessWrong : ChangeSpec := { name := "fnValidPrefixInnerKeyPrefixIsHarmless", fn := fun _ => fun
  | [d1, d2] => { results := [.lit (.bool false)], args := [d1, d2] }
  | _ => none }
def FnValidPrefixInnerKeyPrefixIsHarmlessWrongFalsely : Prop := fnValidPrefixInnerKeyPrefixIsHarmlessRow.holds Try.pinned (OpenSpec.ofChange fnValidPrefixInnerKeyPrefixIsHarmlessWrong)

end Rows
end Go.Proofs.Qxb6627863a
