/-
  No cell of these rows narrows 'for every input' (looked for: loops, veiled, ifaces, maps, wideKeys, modest, calm, conditions, laid).
  DERIVED. THE GIVEN ROWS OF THIS SEAT. 3 by the template 'for every input the law returns true; each argument reads behind the call as it read before'; 0 by the template 'total and deterministic' (their statements: Qxb6601038aTotals.lean).
  GIVEN WITH THE SEED: the statements are not yours to turn. If you find one false, say at which input.
  Laid BY PROGRAM, IN A SANDBOX (cutbox-rows.mjs): the forced cells as the released guide's own fill.sh prints them over the translation 3d07d4ff112aae60… (all of the seat's roots in one cut). By AI agents, Wed Nov 11 2026. No macro, syntax, notation, axiom, sorry.
-/
import Derived.Test.Qxb6601038aChecked
import GoSem.Claim
import GoSem.ClaimJoined
import GoSem.ClaimMapViews
import Derived.JoinedTies
import Derived.KernelRfl
namespace Go.Proofs.Qxb6601038a
/- THE CELL 'sum', in the pinned program and in every row, IS THE sha256 OF THE DUMP (.gsa) THAT Qxb6601038aProg.lean LOADS. Nothing in Lean hashes anything: it is a label: what it is worth is what the hold of that sum in a sandbox is worth. -/
noncomputable def Try.pinned : Pinned := { name := "qxb6601038a", sum := "3d07d4ff112aae6078b3c6945a71b89f4fb613fe061d42828f8534833739307d", checked := Try.checked }
namespace Rows
def none {H : Type} : Left H := { results := [], args := [] }

/-- 'zzlaws_number_b1.FnAllDigitsByteTable': WHATEVER THE INPUT: true; the input reads as it did. -/
def fnAllDigitsByteTableSpec : ChangeSpec := { name := "fnAllDigitsByteTable", fn := fun _ => fun
  | [d] => { results := [.lit (.bool true)], args := [d] }
  | _ => none }
def fnAllDigitsByteTableRow : OpenClaim := { program := "qxb6601038a", sum := "3d07d4ff112aae6078b3c6945a71b89f4fb613fe061d42828f8534833739307d", func := "example.com/tuoguan/tuoguan/zzlaws_number_b1.FnAllDigitsByteTable", spec := "fnAllDigitsByteTable", apart := false }
def FnAllDigitsByteTableSaid : Prop := fnAllDigitsByteTableRow.holds Try.pinned (OpenSpec.ofChange fnAllDigitsByteTableSpec)

/-- ITS FALSE NEIGHBOUR: 'it returns false'. Refute it at one input. -/
def fnAllDigitsByteTableWrong : ChangeSpec := { name := "fnAllDigitsByteTable", fn := fun _ => fun
  | [d] => { results := [.lit (.bool false)], args := [d] }
  | _ => none }
def FnAllDigitsByteTableWrongFalsely : Prop := fnAllDigitsByteTableRow.holds Try.pinned (OpenSpec.ofChange fnAllDigitsByteTableWrong)

/-- 'zzlaws_number_b1.FnAllDigitsConcat': WHATEVER THE INPUT: true; the input reads as it did. -/
def fnAllDigitsConcatSpec : ChangeSpec := { name := "fnAllDigitsConcat", fn := fun _ => fun
  | [d1, d2] => { results := [.lit (.bool true)], args := [d1, d2] }
  | _ => none }
def fnAllDigitsConcatRow : OpenClaim := { program := "qxb6601038a", sum := "3d07d4ff112aae6078b3c6945a71b89f4fb613fe061d42828f8534833739307d", func := "example.com/tuoguan/tuoguan/zzlaws_number_b1.FnAllDigitsConcat", spec := "fnAllDigitsConcat", apart := false }
def FnAllDigitsConcatSaid : Prop := fnAllDigitsConcatRow.holds Try.pinned (OpenSpec.ofChange fnAllDigitsConcatSpec)

/-- ITS FALSE NEIGHBOUR: 'it returns false'. Refute it at one input. -/
def fnAllDigitsConcatWrong : ChangeSpec := { name := "fnAllDigitsConcat", fn := fun _ => fun
  | [d1, d2] => { results := [.lit (.bool false)], args := [d1, d2] }
  | _ => none }
def FnAllDigitsConcatWrongFalsely : Prop := fnAllDigitsConcatRow.holds Try.pinned (OpenSpec.ofChange fnAllDigitsConcatWrong)

/-- 'zzlaws_number_b1.FnAllDigitsRefusesForeignByte': WHATEVER THE INPUT: true; the input reads as it did. -/
def fnAllDigitsRefusesForeignByteSpec : ChangeSpec := { name := "fnAllDigitsRefusesForeignByte", fn := fun _ => fun
  | [d1, d2, d3] => { results := [.lit (.bool true)], args := [d1, d2, d3] }
  | _ => none }
def fnAllDigitsRefusesForeignByteRow : OpenClaim := { program := "qxb6601038a", sum := "3d07d4ff112aae6078b3c6945a71b89f4fb613fe061d42828f8534833739307d", func := "example.com/tuoguan/tuoguan/zzlaws_number_b1.FnAllDigitsRefusesForeignByte", spec := "fnAllDigitsRefusesForeignByte", apart := false }
def FnAllDigitsRefusesForeignByteSaid : Prop := fnAllDigitsRefusesForeignByteRow.holds Try.pinned (OpenSpec.ofChange fnAllDigitsRefusesForeignByteSpec)

/-- ITS FALSE NEIGHBOUR: 'it returns false'. Refute it at one input. -/
def fnAllDigitsRefusesForeignByteWrong : ChangeSpec := { name := "fnAllDigitsRefusesForeignByte", fn := fun _ => fun
  | [d1, d2, d3] => { results := [.lit (.bool false)], args := [d1, d2, d3] }
  | _ => none }
def FnAllDigitsRefusesForeignByteWrongFalsely : Prop := fnAllDigitsRefusesForeignByteRow.holds Try.pinned (OpenSpec.ofChange fnAllDigitsRefusesForeignByteWrong)

end Rows
end Go.Proofs.Qxb6601038a
