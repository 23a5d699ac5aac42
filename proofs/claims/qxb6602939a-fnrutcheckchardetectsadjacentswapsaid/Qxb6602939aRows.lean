/-
  No cell of these rows narrows 'for every input' (looked for: loops, veiled, ifaces, maps, wideKeys, modest, calm, conditions, laid).
  DERIVED. THE GIVEN ROWS OF THIS SEAT. 3 by the template 'for every input the law returns true; each argument reads behind the call as it read before'; 0 by the template 'total and deterministic' (their statements: Qxb6602939aTotals.lean).
  GIVEN WITH THE SEED: the statements are not yours to turn. If you find one false, say at which input.
  Laid BY PROGRAM, IN A SANDBOX (cutbox-rows.mjs): the forced cells as the released guide's own fill.sh prints them over the translation 6dbd4e3159619be7… (all of the seat's roots in one cut). By AI agents, Wed Nov 11 2026. No macro, syntax, notation, axiom, sorry.
-/
import Derived.Test.Qxb6602939aChecked
import GoSem.Claim
import GoSem.ClaimJoined
import GoSem.ClaimMapViews
import Derived.JoinedTies
import Derived.KernelRfl
namespace Go.Proofs.Qxb6602939a
/- THE CELL 'sum', in the pinned program and in every row, IS THE sha256 OF THE DUMP (.gsa) THAT Qxb6602939aProg.lean LOADS. Nothing in Lean hashes anything: it is a label: what it is worth is what the hold of that sum in a sandbox is worth. -/
noncomputable def Try.pinned : Pinned := { name := "qxb6602939a", sum := "6dbd4e3159619be72df682c2fefdb5578743d5fbc0cc51cf9fd783926d40d29c", checked := Try.checked }
namespace Rows
def none {H : Type} : Left H := { results := [], args := [] }

/-- 'zzlaws_root_b1.FnRutCheckCharMatchesMod11Model': WHATEVER THE INPUT: true; the input reads as it did. -/
def fnRutCheckCharMatchesMod11ModelSpec : ChangeSpec := { name := "fnRutCheckCharMatchesMod11Model", fn := fun _ => fun
  | [d] => { results := [.lit (.bool true)], args := [d] }
  | _ => none }
def fnRutCheckCharMatchesMod11ModelRow : OpenClaim := { program := "qxb6602939a", sum := "6dbd4e3159619be72df682c2fefdb5578743d5fbc0cc51cf9fd783926d40d29c", func := "example.com/easi/easi/zzlaws_root_b1.FnRutCheckCharMatchesMod11Model", spec := "fnRutCheckCharMatchesMod11Model", apart := false }
def FnRutCheckCharMatchesMod11ModelSaid : Prop := fnRutCheckCharMatchesMod11ModelRow.holds Try.pinned (OpenSpec.ofChange fnRutCheckCharMatchesMod11ModelSpec)

/-- ITS FALSE NEIGHBOUR: 'it returns false'. Refute it at one input. -/
def fnRutCheckCharMatchesMod11ModelWrong : ChangeSpec := { name := "fnRutCheckCharMatchesMod11Model", fn := fun _ => fun
  | [d] => { results := [.lit (.bool false)], args := [d] }
  | _ => none }
def FnRutCheckCharMatchesMod11ModelWrongFalsely : Prop := fnRutCheckCharMatchesMod11ModelRow.holds Try.pinned (OpenSpec.ofChange fnRutCheckCharMatchesMod11ModelWrong)

/-- 'zzlaws_root_b1.FnRutCheckCharDetectsOneWrongDigit': WHATEVER THE INPUT: true; the input reads as it did. -/
def fnRutCheckCharDetectsOneWrongDigitSpec : ChangeSpec := { name := "fnRutCheckCharDetectsOneWrongDigit", fn := fun _ => fun
  | [d1, d2, d3] => { results := [.lit (.bool true)], args := [d1, d2, d3] }
  | _ => none }
def fnRutCheckCharDetectsOneWrongDigitRow : OpenClaim := { program := "qxb6602939a", sum := "6dbd4e3159619be72df682c2fefdb5578743d5fbc0cc51cf9fd783926d40d29c", func := "example.com/easi/easi/zzlaws_root_b1.FnRutCheckCharDetectsOneWrongDigit", spec := "fnRutCheckCharDetectsOneWrongDigit", apart := false }
def FnRutCheckCharDetectsOneWrongDigitSaid : Prop := fnRutCheckCharDetectsOneWrongDigitRow.holds Try.pinned (OpenSpec.ofChange fnRutCheckCharDetectsOneWrongDigitSpec)

/-- ITS FALSE NEIGHBOUR: 'it returns false'. Refute it at one input. -/
def fnRutCheckCharDetectsOneWrongDigitWrong : ChangeSpec := { name := "fnRutCheckCharDetectsOneWrongDigit", fn := fun _ => fun
  | [d1, d2, d3] => { results := [.lit (.bool false)], args := [d1, d2, d3] }
  | _ => none }
def FnRutCheckCharDetectsOneWrongDigitWrongFalsely : Prop := fnRutCheckCharDetectsOneWrongDigitRow.holds Try.pinned (OpenSpec.ofChange fnRutCheckCharDetectsOneWrongDigitWrong)

/-- 'zzlaws_root_b1.FnRutCheckCharDetectsAdjacentSwap': WHATEVER THE INPUT: true; the input reads as it did. -/
def fnRutCheckCharDetectsAdjacentSwapSpec : ChangeSpec := { name := "fnRutCheckCharDetectsAdjacentSwap", fn := fun _ => fun
  | [d1, d2] => { results := [.lit (.bool true)], args := [d1, d2] }
  | _ => none }
def fnRutCheckCharDetectsAdjacentSwapRow : OpenClaim := { program := "qxb6602939a", sum := "6dbd4e3159619be72df682c2fefdb5578743d5fbc0cc51cf9fd783926d40d29c", func := "example.com/easi/easi/zzlaws_root_b1.FnRutCheckCharDetectsAdjacentSwap", spec := "fnRutCheckCharDetectsAdjacentSwap", apart := false }
def FnRutCheckCharDetectsAdjacentSwapSaid : Prop := fnRutCheckCharDetectsAdjacentSwapRow.holds Try.pinned (OpenSpec.ofChange fnRutCheckCharDetectsAdjacentSwapSpec)

/-- ITS FALSE NEIGHBOUR: 'it returns false'. Refute it at one input. -/
def fnRutCheckCharDetectsAdjacentSwapWrong : ChangeSpec := { name := "fnRutCheckCharDetectsAdjacentSwap", fn := fun _ => fun
  | [d1, d2] => { results := [.lit (.bool false)], args := [d1, d2] }
  | _ => none }
def FnRutCheckCharDetectsAdjacentSwapWrongFalsely : Prop := fnRutCheckCharDetectsAdjacentSwapRow.holds Try.pinned (OpenSpec.ofChange fnRutCheckCharDetectsAdjacentSwapWrong)

end Rows
end Go.Proofs.Qxb6602939a
