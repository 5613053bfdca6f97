/-
  No cell of these rows narrows 'for every input' (looked for: loops, veiled, ifaces, maps, wideKeys, modest, calm, conditions, laid).
  DERIVED. THE GIVEN ROWS OF THIS SEAT. 3 by the template 'for every input the law returns true; each argument reads behind the call as it read before'; 0 by the template 'total and deterministic' (their statements: Qxb6619247aTotals.lean).
  GIVEN WITH THE SEED: the statements are not yours to turn. If you find one false, say at which input.
  Laid BY PROGRAM, IN A SANDBOX (cutbox-rows.mjs): the forced cells as the released guide's own fill.sh prints them over the translation 8bf95f04c4f91811… (all of the seat's roots in one cut). By AI agents, Wed Nov 11 2026. No macro, syntax, notation, axiom, sorry.
-/
import Derived.Test.Qxb6619247aChecked
import GoSem.Claim
import GoSem.ClaimJoined
import GoSem.ClaimMapViews
import Derived.JoinedTies
import Derived.KernelRfl
namespace Go.Proofs.Qxb6619247a
/- THE CELL 'sum', in the pinned program and in every row, IS THE sha256 OF THE DUMP (.gsa) THAT Qxb6619247aProg.lean LOADS. Nothing in Lean hashes anything: it is a label: what it is worth is what the hold of that sum in a sandbox is worth. -/
noncomputable def Try.pinned : Pinned := { name := "qxb6619247a", sum := "8bf95f04c4f91811000dcf96efde5395016c034a57ec1a9e110046f5f42a46fb", checked := Try.checked }
namespace Rows
def none {H : Type} : Left H := { results := [], args := [] }

/-- 'zzlaws_internal_sim_b1.FnPlusIsSaturated128Sum': WHATEVER THE INPUT: true; the input reads as it did. -/
def fnPlusIsSaturated128SumSpec : ChangeSpec := { name := "fnPlusIsSaturated128Sum", fn := fun _ => fun
  | [d1, d2, d3, d4] => { results := [.lit (.bool true)], args := [d1, d2, d3, d4] }
  | _ => none }
def fnPlusIsSaturated128SumRow : OpenClaim := { program := "qxb6619247a", sum := "8bf95f04c4f91811000dcf96efde5395016c034a57ec1a9e110046f5f42a46fb", func := "example.com/dial3/dial3/zzlaws_internal_sim_b1.FnPlusIsSaturated128Sum", spec := "fnPlusIsSaturated128Sum", inPlace := ["math/bits.Add64"], apart := false }
def FnPlusIsSaturated128SumSaid : Prop := fnPlusIsSaturated128SumRow.holds Try.pinned (OpenSpec.ofChange fnPlusIsSaturated128SumSpec)

/-- ITS FALSE NEIGHBOUR: 'it returns false'. Refute it at one input. -/
def fnPlusIsSaturated128SumWrong : ChangeSpec := { name := "fnPlusIsSaturated128Sum", fn := fun _ => fun
  | [d1, d2, d3, d4] => { results := [.lit (.bool false)], args := [d1, d2, d3, d4] }
  | _ => none }
def FnPlusIsSaturated128SumWrongFalsely : Prop := fnPlusIsSaturated128SumRow.holds Try.pinned (OpenSpec.ofChange fnPlusIsSaturated128SumWrong)

/-- 'zzlaws_internal_sim_b1.FnPlusAssociativeAndFillsGap': WHATEVER THE INPUT: true; the input reads as it did. -/
def fnPlusAssociativeAndFillsGapSpec : ChangeSpec := { name := "fnPlusAssociativeAndFillsGap", fn := fun _ => fun
  | [d1, d2, d3, d4, d5, d6] => { results := [.lit (.bool true)], args := [d1, d2, d3, d4, d5, d6] }
  | _ => none }
def fnPlusAssociativeAndFillsGapRow : OpenClaim := { program := "qxb6619247a", sum := "8bf95f04c4f91811000dcf96efde5395016c034a57ec1a9e110046f5f42a46fb", func := "example.com/dial3/dial3/zzlaws_internal_sim_b1.FnPlusAssociativeAndFillsGap", spec := "fnPlusAssociativeAndFillsGap", inPlace := ["math/bits.Add64"], apart := false }
def FnPlusAssociativeAndFillsGapSaid : Prop := fnPlusAssociativeAndFillsGapRow.holds Try.pinned (OpenSpec.ofChange fnPlusAssociativeAndFillsGapSpec)

/-- ITS FALSE NEIGHBOUR: 'it returns false'. Refute it at one input. -/
def fnPlusAssociativeAndFillsGapWrong : ChangeSpec := { name := "fnPlusAssociativeAndFillsGap", fn := fun _ => fun
  | [d1, d2, d3, d4, d5, d6] => { results := [.lit (.bool false)], args := [d1, d2, d3, d4, d5, d6] }
  | _ => none }
def FnPlusAssociativeAndFillsGapWrongFalsely : Prop := fnPlusAssociativeAndFillsGapRow.holds Try.pinned (OpenSpec.ofChange fnPlusAssociativeAndFillsGapWrong)

/-- 'zzlaws_internal_sim_b1.FnPlusBoundsIdentityAndEnd': WHATEVER THE INPUT: true; the input reads as it did. -/
def fnPlusBoundsIdentityAndEndSpec : ChangeSpec := { name := "fnPlusBoundsIdentityAndEnd", fn := fun _ => fun
  | [d1, d2, d3, d4] => { results := [.lit (.bool true)], args := [d1, d2, d3, d4] }
  | _ => none }
def fnPlusBoundsIdentityAndEndRow : OpenClaim := { program := "qxb6619247a", sum := "8bf95f04c4f91811000dcf96efde5395016c034a57ec1a9e110046f5f42a46fb", func := "example.com/dial3/dial3/zzlaws_internal_sim_b1.FnPlusBoundsIdentityAndEnd", spec := "fnPlusBoundsIdentityAndEnd", inPlace := ["math/bits.Add64"], apart := false }
def FnPlusBoundsIdentityAndEndSaid : Prop := fnPlusBoundsIdentityAndEndRow.holds Try.pinned (OpenSpec.ofChange fnPlusBoundsIdentityAndEndSpec)

/-- ITS FALSE NEIGHBOUR: 'it returns false'. Refute it at one input. -/
def fnPlusBoundsIdentityAndEndWrong : ChangeSpec := { name := "fnPlusBoundsIdentityAndEnd", fn := fun _ => fun
  | [d1, d2, d3, d4] => { results := [.lit (.bool false)], args := [d1, d2, d3, d4] }
  | _ => none }
def FnPlusBoundsIdentityAndEndWrongFalsely : Prop := fnPlusBoundsIdentityAndEndRow.holds Try.pinned (OpenSpec.ofChange fnPlusBoundsIdentityAndEndWrong)

end Rows
end Go.Proofs.Qxb6619247a
