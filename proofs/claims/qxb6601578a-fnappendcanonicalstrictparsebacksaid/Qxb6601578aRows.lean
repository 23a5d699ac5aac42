/-
  NARROWER THAN 'FOR EVERY INPUT', by the rows' own cells (each row's printed sentence says how): FnAppendCanonicalStrictParseBack: loops.
  DERIVED. THE GIVEN ROWS OF THIS SEAT. 4 by the template 'for every input the law returns true; each argument reads behind the call as it read before'; 0 by the template 'total and deterministic' (their statements: Qxb6601578aTotals.lean).
  GIVEN WITH THE SEED: the statements are not yours to turn. If you find one false, say at which input.
  Laid BY PROGRAM, IN A SANDBOX (cutbox-rows.mjs): the forced cells as the released guide's own fill.sh prints them over the translation bb9325db7ea64d35… (all of the seat's roots in one cut). By AI agents, Wed Nov 11 2026. No macro, syntax, notation, axiom, sorry.
-/
import Derived.Test.Qxb6601578aChecked
import GoSem.Claim
import GoSem.ClaimJoined
import GoSem.ClaimMapViews
import Derived.JoinedTies
import Derived.KernelRfl
namespace Go.Proofs.Qxb6601578a
/- THE CELL 'sum', in the pinned program and in every row, IS THE sha256 OF THE DUMP (.gsa) THAT Qxb6601578aProg.lean LOADS. Nothing in Lean hashes anything: it is a label: what it is worth is what the hold of that sum in a sandbox is worth. -/
noncomputable def Try.pinned : Pinned := { name := "qxb6601578a", sum := "bb9325db7ea64d351f739703ef9ae12ff1f33a6b3fd7967df919f4064d52ca41", checked := Try.checked }
namespace Rows
def none {H : Type} : Left H := { results := [], args := [] }

/-- 'zzlaws_internal_jsondoc_b1.FnAppendStringByteTable': WHATEVER THE INPUT: true; the input reads as it did. -/
def fnAppendStringByteTableSpec : ChangeSpec := { name := "fnAppendStringByteTable", fn := fun _ => fun
  | [d1, d2] => { results := [.lit (.bool true)], args := [d1, d2] }
  | _ => none }
def fnAppendStringByteTableRow : OpenClaim := { program := "qxb6601578a", sum := "bb9325db7ea64d351f739703ef9ae12ff1f33a6b3fd7967df919f4064d52ca41", func := "example.com/settle/settle/zzlaws_internal_jsondoc_b1.FnAppendStringByteTable", spec := "fnAppendStringByteTable", apart := false }
def FnAppendStringByteTableSaid : Prop := fnAppendStringByteTableRow.holds Try.pinned (OpenSpec.ofChange fnAppendStringByteTableSpec)

/-- ITS FALSE NEIGHBOUR: 'it returns false'. Refute it at one input. -/
def fnAppendStringByteTableWrong : ChangeSpec := { name := "fnAppendStringByteTable", fn := fun _ => fun
  | [d1, d2] => { results := [.lit (.bool false)], args := [d1, d2] }
  | _ => none }
def FnAppendStringByteTableWrongFalsely : Prop := fnAppendStringByteTableRow.holds Try.pinned (OpenSpec.ofChange fnAppendStringByteTableWrong)

/-- 'zzlaws_internal_jsondoc_b1.FnAppendStringStrictRoundTrip': WHATEVER THE INPUT: true; the input reads as it did. -/
def fnAppendStringStrictRoundTripSpec : ChangeSpec := { name := "fnAppendStringStrictRoundTrip", fn := fun _ => fun
  | [d] => { results := [.lit (.bool true)], args := [d] }
  | _ => none }
def fnAppendStringStrictRoundTripRow : OpenClaim := { program := "qxb6601578a", sum := "bb9325db7ea64d351f739703ef9ae12ff1f33a6b3fd7967df919f4064d52ca41", func := "example.com/settle/settle/zzlaws_internal_jsondoc_b1.FnAppendStringStrictRoundTrip", spec := "fnAppendStringStrictRoundTrip", apart := false }
def FnAppendStringStrictRoundTripSaid : Prop := fnAppendStringStrictRoundTripRow.holds Try.pinned (OpenSpec.ofChange fnAppendStringStrictRoundTripSpec)

/-- ITS FALSE NEIGHBOUR: 'it returns false'. Refute it at one input. -/
def fnAppendStringStrictRoundTripWrong : ChangeSpec := { name := "fnAppendStringStrictRoundTrip", fn := fun _ => fun
  | [d] => { results := [.lit (.bool false)], args := [d] }
  | _ => none }
def FnAppendStringStrictRoundTripWrongFalsely : Prop := fnAppendStringStrictRoundTripRow.holds Try.pinned (OpenSpec.ofChange fnAppendStringStrictRoundTripWrong)

/-- 'zzlaws_internal_jsondoc_b1.FnAppendStringConcatenates': WHATEVER THE INPUT: true; the input reads as it did. -/
def fnAppendStringConcatenatesSpec : ChangeSpec := { name := "fnAppendStringConcatenates", fn := fun _ => fun
  | [d1, d2] => { results := [.lit (.bool true)], args := [d1, d2] }
  | _ => none }
def fnAppendStringConcatenatesRow : OpenClaim := { program := "qxb6601578a", sum := "bb9325db7ea64d351f739703ef9ae12ff1f33a6b3fd7967df919f4064d52ca41", func := "example.com/settle/settle/zzlaws_internal_jsondoc_b1.FnAppendStringConcatenates", spec := "fnAppendStringConcatenates", apart := false }
def FnAppendStringConcatenatesSaid : Prop := fnAppendStringConcatenatesRow.holds Try.pinned (OpenSpec.ofChange fnAppendStringConcatenatesSpec)

/-- ITS FALSE NEIGHBOUR: 'it returns false'. Refute it at one input. -/
def fnAppendStringConcatenatesWrong : ChangeSpec := { name := "fnAppendStringConcatenates", fn := fun _ => fun
  | [d1, d2] => { results := [.lit (.bool false)], args := [d1, d2] }
  | _ => none }
def FnAppendStringConcatenatesWrongFalsely : Prop := fnAppendStringConcatenatesRow.holds Try.pinned (OpenSpec.ofChange fnAppendStringConcatenatesWrong)

/-- 'zzlaws_internal_jsondoc_b1.FnAppendCanonicalStrictParseBack': WHATEVER THE INPUT: true; the input reads as it did. -/
def fnAppendCanonicalStrictParseBackSpec : ChangeSpec := { name := "fnAppendCanonicalStrictParseBack", fn := fun _ => fun
  | [d1, d2] => { results := [.lit (.bool true)], args := [d1, d2] }
  | _ => none }
def fnAppendCanonicalStrictParseBackRow : OpenClaim := { program := "qxb6601578a", sum := "bb9325db7ea64d351f739703ef9ae12ff1f33a6b3fd7967df919f4064d52ca41", func := "example.com/settle/settle/zzlaws_internal_jsondoc_b1.FnAppendCanonicalStrictParseBack", spec := "fnAppendCanonicalStrictParseBack", recurses := true, loops := true, apart := false }
def FnAppendCanonicalStrictParseBackSaid : Prop := fnAppendCanonicalStrictParseBackRow.holds Try.pinned (OpenSpec.ofChange fnAppendCanonicalStrictParseBackSpec)

/-- ITS FALSE NEIGHBOUR: 'it returns false'. Refute it at one input. -/
def fnAppendCanonicalStrictParseBackWrong : ChangeSpec := { name := "fnAppendCanonicalStrictParseBack", fn := fun _ => fun
  | [d1, d2] => { results := [.lit (.bool false)], args := [d1, d2] }
  | _ => none }
def FnAppendCanonicalStrictParseBackWrongFalsely : Prop := fnAppendCanonicalStrictParseBackRow.holds Try.pinned (OpenSpec.ofChange fnAppendCanonicalStrictParseBackWrong)

end Rows
end Go.Proofs.Qxb6601578a
