/-
  No cell of these rows narrows 'for every input' (looked for: loops, veiled, ifaces, maps, wideKeys, modest, calm, conditions, laid).
  DERIVED. THE GIVEN ROWS OF THIS SEAT. 3 by the template 'for every input the law returns true; each argument reads behind the call as it read before'; 0 by the template 'total and deterministic' (their statements: Qxb6003658aTotals.lean).
  GIVEN WITH THE SEED: the statements are not yours to turn. If you find one false, say at which input.
  Laid BY PROGRAM, IN A SANDBOX (cutbox-rows.mjs): the forced cells as the released guide's own fill.sh prints them over the translation ffb29e85fdfa7e66… (all of the seat's roots in one cut). By AI agents, Wed Nov 11 2026. No macro, syntax, notation, axiom, sorry.
-/
import Derived.Test.Qxb6003658aChecked
import GoSem.Claim
import GoSem.ClaimJoined
import GoSem.ClaimMapViews
import Derived.JoinedTies
import Derived.KernelRfl
namespace Go.Proofs.Qxb6003658a
/- THE CELL 'sum', in the pinned program and in every row, IS THE sha256 OF THE DUMP (.gsa) THAT Qxb6003658aProg.lean LOADS. Nothing in Lean hashes anything: it is a label: what it is worth is what the hold of that sum in a sandbox is worth. -/
noncomputable def Try.pinned : Pinned := { name := "qxb6003658a", sum := "ffb29e85fdfa7e66ff95592af2b996a7149288b5442554f71e6a0d40eed75b28", checked := Try.checked }
namespace Rows
def none {H : Type} : Left H := { results := [], args := [] }

/-- 'zzlaws_internal_jsonvalue_b1.FnHex4ReadsFourHexDigits': WHATEVER THE INPUT: true; the input reads as it did. -/
def fnHex4ReadsFourHexDigitsSpec : ChangeSpec := { name := "fnHex4ReadsFourHexDigits", fn := fun _ => fun
  | [d] => { results := [.lit (.bool true)], args := [d] }
  | _ => none }
def fnHex4ReadsFourHexDigitsRow : OpenClaim := { program := "qxb6003658a", sum := "ffb29e85fdfa7e66ff95592af2b996a7149288b5442554f71e6a0d40eed75b28", func := "example.com/osprey/osprey/zzlaws_internal_jsonvalue_b1.FnHex4ReadsFourHexDigits", spec := "fnHex4ReadsFourHexDigits", apart := false }
def FnHex4ReadsFourHexDigitsSaid : Prop := fnHex4ReadsFourHexDigitsRow.holds Try.pinned (OpenSpec.ofChange fnHex4ReadsFourHexDigitsSpec)

/-- ITS FALSE NEIGHBOUR: 'it returns false'. Refute it at one input. -/
def fnHex4ReadsFourHexDigitsWrong : ChangeSpec := { name := "fnHex4ReadsFourHexDigits", fn := fun _ => fun
  | [d] => { results := [.lit (.bool false)], args := [d] }
  | _ => none }
def FnHex4ReadsFourHexDigitsWrongFalsely : Prop := fnHex4ReadsFourHexDigitsRow.holds Try.pinned (OpenSpec.ofChange fnHex4ReadsFourHexDigitsWrong)

/-- 'zzlaws_internal_jsonvalue_b1.FnAppendEscapeDecodesBackToTheByte': WHATEVER THE INPUT: true; the input reads as it did. -/
def fnAppendEscapeDecodesBackToTheByteSpec : ChangeSpec := { name := "fnAppendEscapeDecodesBackToTheByte", fn := fun _ => fun
  | [d1, d2] => { results := [.lit (.bool true)], args := [d1, d2] }
  | _ => none }
def fnAppendEscapeDecodesBackToTheByteRow : OpenClaim := { program := "qxb6003658a", sum := "ffb29e85fdfa7e66ff95592af2b996a7149288b5442554f71e6a0d40eed75b28", func := "example.com/osprey/osprey/zzlaws_internal_jsonvalue_b1.FnAppendEscapeDecodesBackToTheByte", spec := "fnAppendEscapeDecodesBackToTheByte", apart := false }
def FnAppendEscapeDecodesBackToTheByteSaid : Prop := fnAppendEscapeDecodesBackToTheByteRow.holds Try.pinned (OpenSpec.ofChange fnAppendEscapeDecodesBackToTheByteSpec)

/-- ITS FALSE NEIGHBOUR: 'it returns false'. Refute it at one input. -/
def fnAppendEscapeDecodesBackToTheByteWrong : ChangeSpec := { name := "fnAppendEscapeDecodesBackToTheByte", fn := fun _ => fun
  | [d1, d2] => { results := [.lit (.bool false)], args := [d1, d2] }
  | _ => none }
def FnAppendEscapeDecodesBackToTheByteWrongFalsely : Prop := fnAppendEscapeDecodesBackToTheByteRow.holds Try.pinned (OpenSpec.ofChange fnAppendEscapeDecodesBackToTheByteWrong)

/-- 'zzlaws_internal_jsonvalue_b1.FnAppendEscapeIsAPrefixCode': WHATEVER THE INPUT: true; the input reads as it did. -/
def fnAppendEscapeIsAPrefixCodeSpec : ChangeSpec := { name := "fnAppendEscapeIsAPrefixCode", fn := fun _ => fun
  | [d1, d2, d3] => { results := [.lit (.bool true)], args := [d1, d2, d3] }
  | _ => none }
def fnAppendEscapeIsAPrefixCodeRow : OpenClaim := { program := "qxb6003658a", sum := "ffb29e85fdfa7e66ff95592af2b996a7149288b5442554f71e6a0d40eed75b28", func := "example.com/osprey/osprey/zzlaws_internal_jsonvalue_b1.FnAppendEscapeIsAPrefixCode", spec := "fnAppendEscapeIsAPrefixCode", apart := false }
def FnAppendEscapeIsAPrefixCodeSaid : Prop := fnAppendEscapeIsAPrefixCodeRow.holds Try.pinned (OpenSpec.ofChange fnAppendEscapeIsAPrefixCodeSpec)

/-- ITS FALSE NEIGHBOUR: 'it returns false'. Refute it at one input. -/
def fnAppendEscapeIsAPrefixCodeWrong : ChangeSpec := { name := "fnAppendEscapeIsAPrefixCode", fn := fun _ => fun
  | [d1, d2, d3] => { results := [.lit (.bool false)], args := [d1, d2, d3] }
  | _ => none }
def FnAppendEscapeIsAPrefixCodeWrongFalsely : Prop := fnAppendEscapeIsAPrefixCodeRow.holds Try.pinned (OpenSpec.ofChange fnAppendEscapeIsAPrefixCodeWrong)

end Rows
end Go.Proofs.Qxb6003658a
