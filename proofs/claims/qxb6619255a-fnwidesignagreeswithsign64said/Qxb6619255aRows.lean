/-
  No cell of these rows narrows 'for every input' (looked for: loops, veiled, ifaces, maps, wideKeys, modest, calm, conditions, laid).
  DERIVED. THE GIVEN ROWS OF THIS SEAT. 4 by the template 'for every input the law returns true; each argument reads behind the call as it read before'; 0 by the template 'total and deterministic' (their statements: Qxb6619255aTotals.lean).
  GIVEN WITH THE SEED: the statements are not yours to turn. If you find one false, say at which input.
  Laid BY PROGRAM, IN A SANDBOX (cutbox-rows.mjs): the forced cells as the released guide's own fill.sh prints them over the translation 2ee7e7079b7cac25… (all of the seat's roots in one cut). By AI agents, Wed Nov 11 2026. No macro, syntax, notation, axiom, sorry.
-/
import Derived.Test.Qxb6619255aChecked
import GoSem.Claim
import GoSem.ClaimJoined
import GoSem.ClaimMapViews
import Derived.JoinedTies
import Derived.KernelRfl
namespace Go.Proofs.Qxb6619255a
/- THE CELL 'sum', in the pinned program and in every row, IS THE sha256 OF THE DUMP (.gsa) THAT Qxb6619255aProg.lean LOADS. Nothing in Lean hashes anything: it is a label: what it is worth is what the hold of that sum in a sandbox is worth. -/
noncomputable def Try.pinned : Pinned := { name := "qxb6619255a", sum := "2ee7e7079b7cac256705bec9ffb9bf271741e7d338981328a4fb637f3647f3d9", checked := Try.checked }
namespace Rows
def none {H : Type} : Left H := { results := [], args := [] }

/-- 'zzlaws_decimal_b1.FnSign64Multiplicative': WHATEVER THE INPUT: true; the input reads as it did. -/
def fnSign64MultiplicativeSpec : ChangeSpec := { name := "fnSign64Multiplicative", fn := fun _ => fun
  | [d1, d2] => { results := [.lit (.bool true)], args := [d1, d2] }
  | _ => none }
def fnSign64MultiplicativeRow : OpenClaim := { program := "qxb6619255a", sum := "2ee7e7079b7cac256705bec9ffb9bf271741e7d338981328a4fb637f3647f3d9", func := "example.com/spreadtally/spreadtally/zzlaws_decimal_b1.FnSign64Multiplicative", spec := "fnSign64Multiplicative", apart := false }
def FnSign64MultiplicativeSaid : Prop := fnSign64MultiplicativeRow.holds Try.pinned (OpenSpec.ofChange fnSign64MultiplicativeSpec)

/-- ITS FALSE NEIGHBOUR: 'it returns false'. Refute it at one input. -/
def fnSign64MultiplicativeWrong : ChangeSpec := { name := "fnSign64Multiplicative", fn := fun _ => fun
  | [d1, d2] => { results := [.lit (.bool false)], args := [d1, d2] }
  | _ => none }
def FnSign64MultiplicativeWrongFalsely : Prop := fnSign64MultiplicativeRow.holds Try.pinned (OpenSpec.ofChange fnSign64MultiplicativeWrong)

/-- 'zzlaws_decimal_b1.FnSign64OrdersDifferences': WHATEVER THE INPUT: true; the input reads as it did. -/
def fnSign64OrdersDifferencesSpec : ChangeSpec := { name := "fnSign64OrdersDifferences", fn := fun _ => fun
  | [d1, d2] => { results := [.lit (.bool true)], args := [d1, d2] }
  | _ => none }
def fnSign64OrdersDifferencesRow : OpenClaim := { program := "qxb6619255a", sum := "2ee7e7079b7cac256705bec9ffb9bf271741e7d338981328a4fb637f3647f3d9", func := "example.com/spreadtally/spreadtally/zzlaws_decimal_b1.FnSign64OrdersDifferences", spec := "fnSign64OrdersDifferences", apart := false }
def FnSign64OrdersDifferencesSaid : Prop := fnSign64OrdersDifferencesRow.holds Try.pinned (OpenSpec.ofChange fnSign64OrdersDifferencesSpec)

/-- ITS FALSE NEIGHBOUR: 'it returns false'. Refute it at one input. -/
def fnSign64OrdersDifferencesWrong : ChangeSpec := { name := "fnSign64OrdersDifferences", fn := fun _ => fun
  | [d1, d2] => { results := [.lit (.bool false)], args := [d1, d2] }
  | _ => none }
def FnSign64OrdersDifferencesWrongFalsely : Prop := fnSign64OrdersDifferencesRow.holds Try.pinned (OpenSpec.ofChange fnSign64OrdersDifferencesWrong)

/-- 'zzlaws_decimal_b1.FnWideSignNegationFlips': WHATEVER THE INPUT: true; the input reads as it did. -/
def fnWideSignNegationFlipsSpec : ChangeSpec := { name := "fnWideSignNegationFlips", fn := fun _ => fun
  | [d1, d2, d3] => { results := [.lit (.bool true)], args := [d1, d2, d3] }
  | _ => none }
def fnWideSignNegationFlipsRow : OpenClaim := { program := "qxb6619255a", sum := "2ee7e7079b7cac256705bec9ffb9bf271741e7d338981328a4fb637f3647f3d9", func := "example.com/spreadtally/spreadtally/zzlaws_decimal_b1.FnWideSignNegationFlips", spec := "fnWideSignNegationFlips", apart := false }
def FnWideSignNegationFlipsSaid : Prop := fnWideSignNegationFlipsRow.holds Try.pinned (OpenSpec.ofChange fnWideSignNegationFlipsSpec)

/-- ITS FALSE NEIGHBOUR: 'it returns false'. Refute it at one input. -/
def fnWideSignNegationFlipsWrong : ChangeSpec := { name := "fnWideSignNegationFlips", fn := fun _ => fun
  | [d1, d2, d3] => { results := [.lit (.bool false)], args := [d1, d2, d3] }
  | _ => none }
def FnWideSignNegationFlipsWrongFalsely : Prop := fnWideSignNegationFlipsRow.holds Try.pinned (OpenSpec.ofChange fnWideSignNegationFlipsWrong)

/-- 'zzlaws_decimal_b1.FnWideSignAgreesWithSign64': WHATEVER THE INPUT: true; the input reads as it did. -/
def fnWideSignAgreesWithSign64Spec : ChangeSpec := { name := "fnWideSignAgreesWithSign64", fn := fun _ => fun
  | [d1, d2, d3] => { results := [.lit (.bool true)], args := [d1, d2, d3] }
  | _ => none }
def fnWideSignAgreesWithSign64Row : OpenClaim := { program := "qxb6619255a", sum := "2ee7e7079b7cac256705bec9ffb9bf271741e7d338981328a4fb637f3647f3d9", func := "example.com/spreadtally/spreadtally/zzlaws_decimal_b1.FnWideSignAgreesWithSign64", spec := "fnWideSignAgreesWithSign64", apart := false }
def FnWideSignAgreesWithSign64Said : Prop := fnWideSignAgreesWithSign64Row.holds Try.pinned (OpenSpec.ofChange fnWideSignAgreesWithSign64Spec)

/-- ITS FALSE NEIGHBOUR: 'it returns false'. Refute it at one input. -/
def fnWideSignAgreesWithSign64Wrong : ChangeSpec := { name := "fnWideSignAgreesWithSign64", fn := fun _ => fun
  | [d1, d2, d3] => { results := [.lit (.bool false)], args := [d1, d2, d3] }
  | _ => none }
def FnWideSignAgreesWithSign64WrongFalsely : Prop := fnWideSignAgreesWithSign64Row.holds Try.pinned (OpenSpec.ofChange fnWideSignAgreesWithSign64Wrong)

end Rows
end Go.Proofs.Qxb6619255a
