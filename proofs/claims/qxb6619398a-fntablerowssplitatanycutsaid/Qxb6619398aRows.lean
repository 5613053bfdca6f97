/-
  No cell of these rows narrows 'for every input' (looked for: loops, veiled, ifaces, maps, wideKeys, modest, calm, conditions, laid).
  DERIVED. THE GIVEN ROWS OF THIS SEAT. 1 by the template 'for every input the law returns true; each argument reads behind the call as it read before'; 0 by the template 'total and deterministic' (their statements: Qxb6619398aTotals.lean).
  GIVEN WITH THE SEED: the statements are not yours to turn. If you find one false, say at which input.
  Laid BY PROGRAM, IN A SANDBOX (cutbox-rows.mjs): the forced cells as the released guide's own fill.sh prints them over the translation be57205ad9f62b84… (all of the seat's roots in one cut). By AI agents, Wed Nov 11 2026. No macro, syntax, notation, axiom, sorry.
-/
import Derived.Test.Qxb6619398aChecked
import GoSem.Claim
import GoSem.ClaimJoined
import GoSem.ClaimMapViews
import Derived.JoinedTies
import Derived.KernelRfl
namespace Go.Proofs.Qxb6619398a
/- THE CELL 'sum', in the pinned program and in every row, IS THE sha256 OF THE DUMP (.gsa) THAT Qxb6619398aProg.lean LOADS. Nothing in Lean hashes anything: it is a label: what it is worth is what the hold of that sum in a sandbox is worth. -/
noncomputable def Try.pinned : Pinned := { name := "qxb6619398a", sum := "be57205ad9f62b8468793493e53a15ad68f25a42646ec959287488b3c09a25f0", checked := Try.checked }
namespace Rows
def none {H : Type} : Left H := { results := [], args := [] }

/-- 'zzlaws_internal_check_b1.FnTableRowsSplitAtAnyCut': WHATEVER THE INPUT: true; the input reads as it did. -/
def fnTableRowsSplitAtAnyCutSpec : ChangeSpec := { name := "fnTableRowsSplitAtAnyCut", fn := fun _ => fun
  | [d1, d2] => { results := [.lit (.bool true)], args := [d1, d2] }
  | _ => none }
def fnTableRowsSplitAtAnyCutRow : OpenClaim := { program := "qxb6619398a", sum := "be57205ad9f62b8468793493e53a15ad68f25a42646ec959287488b3c09a25f0", func := "example.com/vestwright/vestwright/zzlaws_internal_check_b1.FnTableRowsSplitAtAnyCut", spec := "fnTableRowsSplitAtAnyCut", apart := false }
def FnTableRowsSplitAtAnyCutSaid : Prop := fnTableRowsSplitAtAnyCutRow.holds Try.pinned (OpenSpec.ofChange fnTableRowsSplitAtAnyCutSpec)

/-- ITS FALSE NEIGHBOUR: 'it returns false'. Refute it at one input. -/
def fnTableRowsSplitAtAnyCutWrong : ChangeSpec := { name := "fnTableRowsSplitAtAnyCut", fn := fun _ => fun
  | [d1, d2] => { results := [.lit (.bool false)], args := [d1, d2] }
  | _ => none }
def FnTableRowsSplitAtAnyCutWrongFalsely : Prop := fnTableRowsSplitAtAnyCutRow.holds Try.pinned (OpenSpec.ofChange fnTableRowsSplitAtAnyCutWrong)

end Rows
end Go.Proofs.Qxb6619398a
