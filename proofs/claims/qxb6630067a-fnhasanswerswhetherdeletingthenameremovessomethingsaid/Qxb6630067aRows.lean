/-
  No cell of these rows narrows 'for every input' (looked for: loops, veiled, ifaces, maps, wideKeys, modest, calm, conditions, laid).
  DERIVED. THE GIVEN ROWS OF THIS SEAT. 2 by the template 'for every input the law returns true; each argument reads behind the call as it read before'; 0 by the template 'total and deterministic' (their statements: Qxb6630067aTotals.lean).
  GIVEN WITH THE SEED: the statements are not yours to turn. If you find one false, say at which input.
  Laid BY PROGRAM, IN A SANDBOX (cutbox-rows.mjs): the forced cells as the released guide's own fill.sh prints them over the translation 35f2e58006f81157… (all of the seat's roots in one cut). By AI agents, Wed Nov 11 2026. No macro, syntax, notation, axiom, sorry.
-/
import Derived.Test.Qxb6630067aChecked
import GoSem.Claim
import GoSem.ClaimJoined
import GoSem.ClaimMapViews
import Derived.JoinedTies
import Derived.KernelRfl
namespace Go.Proofs.Qxb6630067a
/- THE CELL 'sum', in the pinned program and in every row, IS THE sha256 OF THE DUMP (.gsa) THAT Qxb6630067aProg.lean LOADS. Nothing in Lean hashes anything: it is a label: what it is worth is what the hold of that sum in a sandbox is worth. -/
noncomputable def Try.pinned : Pinned := { name := "qxb6630067a", sum := "35f2e58006f8115713147778e91911617063472e3f4be46a1a65224fe7d34561", checked := Try.checked }
namespace Rows
def none {H : Type} : Left H := { results := [], args := [] }

/-- 'zzlaws_pkg_fields_b1.FnHasJoinAndInsertAtAnyCut': WHATEVER THE INPUT: true; the input reads as it did. -/
def fnHasJoinAndInsertAtAnyCutSpec : ChangeSpec := { name := "fnHasJoinAndInsertAtAnyCut", fn := fun _ => fun
  | [d1, d2, d3, d4, d5] => { results := [.lit (.bool true)], args := [d1, d2, d3, d4, d5] }
  | _ => none }
def fnHasJoinAndInsertAtAnyCutRow : OpenClaim := { program := "qxb6630067a", sum := "35f2e58006f8115713147778e91911617063472e3f4be46a1a65224fe7d34561", func := "example.com/evenfall/evenfall/zzlaws_pkg_fields_b1.FnHasJoinAndInsertAtAnyCut", spec := "fnHasJoinAndInsertAtAnyCut", apart := false }
def FnHasJoinAndInsertAtAnyCutSaid : Prop := fnHasJoinAndInsertAtAnyCutRow.holds Try.pinned (OpenSpec.ofChange fnHasJoinAndInsertAtAnyCutSpec)

/-- ITS FALSE NEIGHBOUR: 'it returns false'. Refute it at one input. -/
def fnHasJoinAndInsertAtAnyCutWrong : ChangeSpec := { name := "fnHasJoinAndInsertAtAnyCut", fn := fun _ => fun
  | [d1, d2, d3, d4, d5] => { results := [.lit (.bool false)], args := [d1, d2, d3, d4, d5] }
  | _ => none }
def FnHasJoinAndInsertAtAnyCutWrongFalsely : Prop := fnHasJoinAndInsertAtAnyCutRow.holds Try.pinned (OpenSpec.ofChange fnHasJoinAndInsertAtAnyCutWrong)

/-- 'zzlaws_pkg_fields_b1.FnHasAnswersWhetherDeletingTheNameRemovesSomething': WHATEVER THE INPUT: true; the input reads as it did. -/
def fnHasAnswersWhetherDeletingTheNameRemovesSomethingSpec : ChangeSpec := { name := "fnHasAnswersWhetherDeletingTheNameRemovesSomething", fn := fun _ => fun
  | [d1, d2, d3] => { results := [.lit (.bool true)], args := [d1, d2, d3] }
  | _ => none }
def fnHasAnswersWhetherDeletingTheNameRemovesSomethingRow : OpenClaim := { program := "qxb6630067a", sum := "35f2e58006f8115713147778e91911617063472e3f4be46a1a65224fe7d34561", func := "example.com/evenfall/evenfall/zzlaws_pkg_fields_b1.FnHasAnswersWhetherDeletingTheNameRemovesSomething", spec := "fnHasAnswersWhetherDeletingTheNameRemovesSomething", apart := false }
def FnHasAnswersWhetherDeletingTheNameRemovesSomethingSaid : Prop := fnHasAnswersWhetherDeletingTheNameRemovesSomethingRow.holds Try.pinned (OpenSpec.ofChange fnHasAnswersWhetherDeletingTheNameRemovesSomethingSpec)

/-- ITS FALSE NEIGHBOUR: 'it returns false'. Refute it at one input. -/
def fnHasAnswersWhetherDeletingTheNameRemovesSomethingWrong : ChangeSpec := { name := "fnHasAnswersWhetherDeletingTheNameRemovesSomething", fn := fun _ => fun
  | [d1, d2, d3] => { results := [.lit (.bool false)], args := [d1, d2, d3] }
  | _ => none }
def FnHasAnswersWhetherDeletingTheNameRemovesSomethingWrongFalsely : Prop := fnHasAnswersWhetherDeletingTheNameRemovesSomethingRow.holds Try.pinned (OpenSpec.ofChange fnHasAnswersWhetherDeletingTheNameRemovesSomethingWrong)

end Rows
end Go.Proofs.Qxb6630067a
