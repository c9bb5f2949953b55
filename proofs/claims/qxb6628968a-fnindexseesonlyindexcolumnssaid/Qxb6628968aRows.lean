/-
  No cell of these rows narrows 'for every input' (looked for: loops, veiled, ifaces, maps, wideKeys, modest, calm, conditions, laid).
  DERIVED. THE GIVEN ROWS OF THIS SEAT. 2 by the template 'for every input the law returns true; each argument reads behind the call as it read before'; 0 by the template 'total and deterministic' (their statements: Qxb6628968aTotals.lean).
  GIVEN WITH THE SEED: the statements are not yours to turn. If you find one false, say at which input.
  Laid BY PROGRAM, IN A SANDBOX (cutbox-rows.mjs): the forced cells as the released guide's own fill.sh prints them over the translation 390b0477681974cb… (all of the seat's roots in one cut). By AI agents, Wed Nov 11 2026. No macro, syntax, notation, axiom, sorry.
-/
import Derived.Test.Qxb6628968aChecked
import GoSem.Claim
import GoSem.ClaimJoined
import GoSem.ClaimMapViews
import Derived.JoinedTies
import Derived.KernelRfl
namespace Go.Proofs.Qxb6628968a
/- THE CELL 'sum', in the pinned program and in every row, IS THE sha256 OF THE DUMP (.gsa) THAT Qxb6628968aProg.lean LOADS. Nothing in Lean hashes anything: it is a label: what it is worth is what the hold of that sum in a sandbox is worth. -/
noncomputable def Try.pinned : Pinned := { name := "qxb6628968a", sum := "390b0477681974cbb2db53328b72e4c55442bf00995f956abaad3d62c9b05955", checked := Try.checked }
namespace Rows
def none {H : Type} : Left H := { results := [], args := [] }

/-- 'zzlaws_pkg_definition_b1.FnIndexSplitsAtAnyCut': WHATEVER THE INPUT: true; the input reads as it did. -/
def fnIndexSplitsAtAnyCutSpec : ChangeSpec := { name := "fnIndexSplitsAtAnyCut", fn := fun _ => fun
  | [d1, d2, d3, d4, d5, d6, d7, d8, d9, d10] => { results := [.lit (.bool true)], args := [d1, d2, d3, d4, d5, d6, d7, d8, d9, d10] }
  | _ => none }
def fnIndexSplitsAtAnyCutRow : OpenClaim := { program := "qxb6628968a", sum := "390b0477681974cbb2db53328b72e4c55442bf00995f956abaad3d62c9b05955", func := "example.com/tributary/tributary/zzlaws_pkg_definition_b1.FnIndexSplitsAtAnyCut", spec := "fnIndexSplitsAtAnyCut", apart := false }
def FnIndexSplitsAtAnyCutSaid : Prop := fnIndexSplitsAtAnyCutRow.holds Try.pinned (OpenSpec.ofChange fnIndexSplitsAtAnyCutSpec)

/-- ITS FALSE NEIGHBOUR: 'it returns false'. Refute it at one input. -/
def fnIndexSplitsAtAnyCutWrong : ChangeSpec := { name := "fnIndexSplitsAtAnyCut", fn := fun _ => fun
  | [d1, d2, d3, d4, d5, d6, d7, d8, d9, d10] => { results := [.lit (.bool false)], args := [d1, d2, d3, d4, d5, d6, d7, d8, d9, d10] }
  | _ => none }
def FnIndexSplitsAtAnyCutWrongFalsely : Prop := fnIndexSplitsAtAnyCutRow.holds Try.pinned (OpenSpec.ofChange fnIndexSplitsAtAnyCutWrong)

/-- 'zzlaws_pkg_definition_b1.FnIndexSeesOnlyIndexColumns': WHATEVER THE INPUT: true; the input reads as it did. -/
def fnIndexSeesOnlyIndexColumnsSpec : ChangeSpec := { name := "fnIndexSeesOnlyIndexColumns", fn := fun _ => fun
  | [d1, d2, d3, d4, d5, d6, d7, d8, d9] => { results := [.lit (.bool true)], args := [d1, d2, d3, d4, d5, d6, d7, d8, d9] }
  | _ => none }
def fnIndexSeesOnlyIndexColumnsRow : OpenClaim := { program := "qxb6628968a", sum := "390b0477681974cbb2db53328b72e4c55442bf00995f956abaad3d62c9b05955", func := "example.com/tributary/tributary/zzlaws_pkg_definition_b1.FnIndexSeesOnlyIndexColumns", spec := "fnIndexSeesOnlyIndexColumns", apart := false }
def FnIndexSeesOnlyIndexColumnsSaid : Prop := fnIndexSeesOnlyIndexColumnsRow.holds Try.pinned (OpenSpec.ofChange fnIndexSeesOnlyIndexColumnsSpec)

/-- ITS FALSE NEIGHBOUR: 'it returns false'. Refute it at one input. -/
def fnIndexSeesOnlyIndexColumnsWrong : ChangeSpec := { name := "fnIndexSeesOnlyIndexColumns", fn := fun _ => fun
  | [d1, d2, d3, d4, d5, d6, d7, d8, d9] => { results := [.lit (.bool false)], args := [d1, d2, d3, d4, d5, d6, d7, d8, d9] }
  | _ => none }
def FnIndexSeesOnlyIndexColumnsWrongFalsely : Prop := fnIndexSeesOnlyIndexColumnsRow.holds Try.pinned (OpenSpec.ofChange fnIndexSeesOnlyIndexColumnsWrong)

end Rows
end Go.Proofs.Qxb6628968a
