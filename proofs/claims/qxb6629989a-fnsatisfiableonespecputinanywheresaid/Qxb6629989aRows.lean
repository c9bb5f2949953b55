/-
  No cell of these rows narrows 'for every input' (looked for: loops, veiled, ifaces, maps, wideKeys, modest, calm, conditions, laid).
  DERIVED. THE GIVEN ROWS OF THIS SEAT. 2 by the template 'for every input the law returns true; each argument reads behind the call as it read before'; 0 by the template 'total and deterministic' (their statements: Qxb6629989aTotals.lean).
  GIVEN WITH THE SEED: the statements are not yours to turn. If you find one false, say at which input.
  Laid BY PROGRAM, IN A SANDBOX (cutbox-rows.mjs): the forced cells as the released guide's own fill.sh prints them over the translation 0b53bab4cf3ef241… (all of the seat's roots in one cut). By AI agents, Wed Nov 11 2026. No macro, syntax, notation, axiom, sorry.
-/
import Derived.Test.Qxb6629989aChecked
import GoSem.Claim
import GoSem.ClaimJoined
import GoSem.ClaimMapViews
import Derived.JoinedTies
import Derived.KernelRfl
namespace Go.Proofs.Qxb6629989a
/- THE CELL 'sum', in the pinned program and in every row, IS THE sha256 OF THE DUMP (.gsa) THAT Qxb6629989aProg.lean LOADS. Nothing in Lean hashes anything: it is a label: what it is worth is what the hold of that sum in a sandbox is worth. -/
noncomputable def Try.pinned : Pinned := { name := "qxb6629989a", sum := "0b53bab4cf3ef241795388682bfa0b42a9d1aa65138980d928a43e510a382ab1", checked := Try.checked }
namespace Rows
def none {H : Type} : Left H := { results := [], args := [] }

/-- 'zzlaws_internal_byterange_b1.FnSatisfiableFirstSatisfiableAtAnyCut': WHATEVER THE INPUT: true; the input reads as it did. -/
def fnSatisfiableFirstSatisfiableAtAnyCutSpec : ChangeSpec := { name := "fnSatisfiableFirstSatisfiableAtAnyCut", fn := fun _ => fun
  | [d1, d2, d3] => { results := [.lit (.bool true)], args := [d1, d2, d3] }
  | _ => none }
def fnSatisfiableFirstSatisfiableAtAnyCutRow : OpenClaim := { program := "qxb6629989a", sum := "0b53bab4cf3ef241795388682bfa0b42a9d1aa65138980d928a43e510a382ab1", func := "example.com/streamweir/streamweir/zzlaws_internal_byterange_b1.FnSatisfiableFirstSatisfiableAtAnyCut", spec := "fnSatisfiableFirstSatisfiableAtAnyCut", apart := false }
def FnSatisfiableFirstSatisfiableAtAnyCutSaid : Prop := fnSatisfiableFirstSatisfiableAtAnyCutRow.holds Try.pinned (OpenSpec.ofChange fnSatisfiableFirstSatisfiableAtAnyCutSpec)

/-- ITS FALSE NEIGHBOUR: 'it returns false'. Refute it at one input. -/
def fnSatisfiableFirstSatisfiableAtAnyCutWrong : ChangeSpec := { name := "fnSatisfiableFirstSatisfiableAtAnyCut", fn := fun _ => fun
  | [d1, d2, d3] => { results := [.lit (.bool false)], args := [d1, d2, d3] }
  | _ => none }
def FnSatisfiableFirstSatisfiableAtAnyCutWrongFalsely : Prop := fnSatisfiableFirstSatisfiableAtAnyCutRow.holds Try.pinned (OpenSpec.ofChange fnSatisfiableFirstSatisfiableAtAnyCutWrong)

/-- 'zzlaws_internal_byterange_b1.FnSatisfiableOneSpecPutInAnywhere': WHATEVER THE INPUT: true; the input reads as it did. -/
def fnSatisfiableOneSpecPutInAnywhereSpec : ChangeSpec := { name := "fnSatisfiableOneSpecPutInAnywhere", fn := fun _ => fun
  | [d1, d2, d3, d4] => { results := [.lit (.bool true)], args := [d1, d2, d3, d4] }
  | _ => none }
def fnSatisfiableOneSpecPutInAnywhereRow : OpenClaim := { program := "qxb6629989a", sum := "0b53bab4cf3ef241795388682bfa0b42a9d1aa65138980d928a43e510a382ab1", func := "example.com/streamweir/streamweir/zzlaws_internal_byterange_b1.FnSatisfiableOneSpecPutInAnywhere", spec := "fnSatisfiableOneSpecPutInAnywhere", apart := false }
def FnSatisfiableOneSpecPutInAnywhereSaid : Prop := fnSatisfiableOneSpecPutInAnywhereRow.holds Try.pinned (OpenSpec.ofChange fnSatisfiableOneSpecPutInAnywhereSpec)

/-- ITS FALSE NEIGHBOUR: 'it returns false'. Refute it at one input. -/
def fnSatisfiableOneSpecPutInAnywhereWrong : ChangeSpec := { name := "fnSatisfiableOneSpecPutInAnywhere", fn := fun _ => fun
  | [d1, d2, d3, d4] => { results := [.lit (.bool false)], args := [d1, d2, d3, d4] }
  | _ => none }
def FnSatisfiableOneSpecPutInAnywhereWrongFalsely : Prop := fnSatisfiableOneSpecPutInAnywhereRow.holds Try.pinned (OpenSpec.ofChange fnSatisfiableOneSpecPutInAnywhereWrong)

end Rows
end Go.Proofs.Qxb6629989a
