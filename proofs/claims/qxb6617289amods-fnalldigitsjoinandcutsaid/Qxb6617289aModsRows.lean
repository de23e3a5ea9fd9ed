/-
  No cell of these rows narrows 'for every input' (looked for: loops, veiled, ifaces, maps, wideKeys, modest, calm, conditions, laid).
  DERIVED. THE GIVEN ROWS OF THIS SEAT. 5 by the template 'for every input the law returns true; each argument reads behind the call as it read before'; 0 by the template 'total and deterministic' (their statements: Qxb6617289aModsTotals.lean).
  GIVEN WITH THE SEED: the statements are not yours to turn. If you find one false, say at which input.
  Laid BY PROGRAM, IN A SANDBOX (cutbox-rows.mjs): the forced cells as the released guide's own fill.sh prints them over the translation e23a4640f896baed… (all of the seat's roots in one cut). By AI agents, Wed Nov 11 2026. No macro, syntax, notation, axiom, sorry.
-/
import Derived.Test.Qxb6617289aModsChecked
import GoSem.Claim
import GoSem.ClaimJoined
import GoSem.ClaimMapViews
import Derived.JoinedTies
import Derived.KernelRfl
namespace Go.Proofs.Qxb6617289aMods
/- THE CELL 'sum', in the pinned program and in every row, IS THE sha256 OF THE DUMP (.gsa) THAT Qxb6617289aModsProg.lean LOADS. Nothing in Lean hashes anything: it is a label: what it is worth is what the hold of that sum in a sandbox is worth. -/
noncomputable def Trym.pinned : Pinned := { name := "qxb6617289amods", sum := "e23a4640f896baed5278551df36846119e653f4e0f40ee6663f71a9e78bdb218", checked := Trym.checked }
namespace Rows
def none {H : Type} : Left H := { results := [], args := [] }

/-- 'zzlaws_pkg_decimal_b1.FnAllDigitsJoinAndCut': WHATEVER THE INPUT: true; the input reads as it did. -/
def fnAllDigitsJoinAndCutSpec : ChangeSpec := { name := "fnAllDigitsJoinAndCut", fn := fun _ => fun
  | [d1, d2, d3] => { results := [.lit (.bool true)], args := [d1, d2, d3] }
  | _ => none }
def fnAllDigitsJoinAndCutRow : OpenClaim := { program := "qxb6617289amods", sum := "e23a4640f896baed5278551df36846119e653f4e0f40ee6663f71a9e78bdb218", func := "example.com/fundwarden/fundwarden/zzlaws_pkg_decimal_b1.FnAllDigitsJoinAndCut", spec := "fnAllDigitsJoinAndCut", make := .lifted ["publicsums"], apart := false }
def FnAllDigitsJoinAndCutSaid : Prop := fnAllDigitsJoinAndCutRow.holds Trym.pinned (OpenSpec.ofChange fnAllDigitsJoinAndCutSpec)

/-- ITS FALSE NEIGHBOUR: 'it returns false'. Refute it at one input. -/
def fnAllDigitsJoinAndCutWrong : ChangeSpec := { name := "fnAllDigitsJoinAndCut", fn := fun _ => fun
  | [d1, d2, d3] => { results := [.lit (.bool false)], args := [d1, d2, d3] }
  | _ => none }
def FnAllDigitsJoinAndCutWrongFalsely : Prop := fnAllDigitsJoinAndCutRow.holds Trym.pinned (OpenSpec.ofChange fnAllDigitsJoinAndCutWrong)

/-- 'zzlaws_pkg_decimal_b1.FnSignOfOddAndUnitMagnitude': WHATEVER THE INPUT: true; the input reads as it did. -/
def fnSignOfOddAndUnitMagnitudeSpec : ChangeSpec := { name := "fnSignOfOddAndUnitMagnitude", fn := fun _ => fun
  | [d1, d2] => { results := [.lit (.bool true)], args := [d1, d2] }
  | _ => none }
def fnSignOfOddAndUnitMagnitudeRow : OpenClaim := { program := "qxb6617289amods", sum := "e23a4640f896baed5278551df36846119e653f4e0f40ee6663f71a9e78bdb218", func := "example.com/fundwarden/fundwarden/zzlaws_pkg_decimal_b1.FnSignOfOddAndUnitMagnitude", spec := "fnSignOfOddAndUnitMagnitude", make := .lifted ["publicsums"], apart := false }
def FnSignOfOddAndUnitMagnitudeSaid : Prop := fnSignOfOddAndUnitMagnitudeRow.holds Trym.pinned (OpenSpec.ofChange fnSignOfOddAndUnitMagnitudeSpec)

/-- ITS FALSE NEIGHBOUR: 'it returns false'. Refute it at one input. -/
def fnSignOfOddAndUnitMagnitudeWrong : ChangeSpec := { name := "fnSignOfOddAndUnitMagnitude", fn := fun _ => fun
  | [d1, d2] => { results := [.lit (.bool false)], args := [d1, d2] }
  | _ => none }
def FnSignOfOddAndUnitMagnitudeWrongFalsely : Prop := fnSignOfOddAndUnitMagnitudeRow.holds Trym.pinned (OpenSpec.ofChange fnSignOfOddAndUnitMagnitudeWrong)

/-- 'zzlaws_pkg_decimal_b1.FnSignOfProduct': WHATEVER THE INPUT: true; the input reads as it did. -/
def fnSignOfProductSpec : ChangeSpec := { name := "fnSignOfProduct", fn := fun _ => fun
  | [d1, d2, d3, d4] => { results := [.lit (.bool true)], args := [d1, d2, d3, d4] }
  | _ => none }
def fnSignOfProductRow : OpenClaim := { program := "qxb6617289amods", sum := "e23a4640f896baed5278551df36846119e653f4e0f40ee6663f71a9e78bdb218", func := "example.com/fundwarden/fundwarden/zzlaws_pkg_decimal_b1.FnSignOfProduct", spec := "fnSignOfProduct", make := .lifted ["publicsums"], apart := false }
def FnSignOfProductSaid : Prop := fnSignOfProductRow.holds Trym.pinned (OpenSpec.ofChange fnSignOfProductSpec)

/-- ITS FALSE NEIGHBOUR: 'it returns false'. Refute it at one input. -/
def fnSignOfProductWrong : ChangeSpec := { name := "fnSignOfProduct", fn := fun _ => fun
  | [d1, d2, d3, d4] => { results := [.lit (.bool false)], args := [d1, d2, d3, d4] }
  | _ => none }
def FnSignOfProductWrongFalsely : Prop := fnSignOfProductRow.holds Trym.pinned (OpenSpec.ofChange fnSignOfProductWrong)

/-- 'zzlaws_pkg_decimal_b1.FnScanWrittenNumbers': WHATEVER THE INPUT: true; the input reads as it did. -/
def fnScanWrittenNumbersSpec : ChangeSpec := { name := "fnScanWrittenNumbers", fn := fun _ => fun
  | [d1, d2, d3, d4] => { results := [.lit (.bool true)], args := [d1, d2, d3, d4] }
  | _ => none }
def fnScanWrittenNumbersRow : OpenClaim := { program := "qxb6617289amods", sum := "e23a4640f896baed5278551df36846119e653f4e0f40ee6663f71a9e78bdb218", func := "example.com/fundwarden/fundwarden/zzlaws_pkg_decimal_b1.FnScanWrittenNumbers", spec := "fnScanWrittenNumbers", inPlace := ["internal/bytealg.IndexByteString", "internal/bytealg.IndexString"], named := ["internal/bytealg.MaxLen"], make := .lifted ["publicsums"], apart := false }
def FnScanWrittenNumbersSaid : Prop := fnScanWrittenNumbersRow.holds Trym.pinned (OpenSpec.ofChange fnScanWrittenNumbersSpec)

/-- ITS FALSE NEIGHBOUR: 'it returns false'. Refute it at one input. -/
def fnScanWrittenNumbersWrong : ChangeSpec := { name := "fnScanWrittenNumbers", fn := fun _ => fun
  | [d1, d2, d3, d4] => { results := [.lit (.bool false)], args := [d1, d2, d3, d4] }
  | _ => none }
def FnScanWrittenNumbersWrongFalsely : Prop := fnScanWrittenNumbersRow.holds Trym.pinned (OpenSpec.ofChange fnScanWrittenNumbersWrong)

/-- 'zzlaws_pkg_decimal_b1.FnScanDotAndMinus': WHATEVER THE INPUT: true; the input reads as it did. -/
def fnScanDotAndMinusSpec : ChangeSpec := { name := "fnScanDotAndMinus", fn := fun _ => fun
  | [d1, d2] => { results := [.lit (.bool true)], args := [d1, d2] }
  | _ => none }
def fnScanDotAndMinusRow : OpenClaim := { program := "qxb6617289amods", sum := "e23a4640f896baed5278551df36846119e653f4e0f40ee6663f71a9e78bdb218", func := "example.com/fundwarden/fundwarden/zzlaws_pkg_decimal_b1.FnScanDotAndMinus", spec := "fnScanDotAndMinus", inPlace := ["internal/bytealg.IndexByteString", "internal/bytealg.IndexString"], named := ["internal/bytealg.MaxLen"], make := .lifted ["publicsums"], apart := false }
def FnScanDotAndMinusSaid : Prop := fnScanDotAndMinusRow.holds Trym.pinned (OpenSpec.ofChange fnScanDotAndMinusSpec)

/-- ITS FALSE NEIGHBOUR: 'it returns false'. Refute it at one input. -/
def fnScanDotAndMinusWrong : ChangeSpec := { name := "fnScanDotAndMinus", fn := fun _ => fun
  | [d1, d2] => { results := [.lit (.bool false)], args := [d1, d2] }
  | _ => none }
def FnScanDotAndMinusWrongFalsely : Prop := fnScanDotAndMinusRow.holds Trym.pinned (OpenSpec.ofChange fnScanDotAndMinusWrong)

end Rows
end Go.Proofs.Qxb6617289aMods
