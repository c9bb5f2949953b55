/-
  No cell of these rows narrows 'for every input' (looked for: loops, veiled, ifaces, maps, wideKeys, modest, calm, conditions, laid).
  DERIVED. THE GIVEN ROWS OF THIS SEAT. 2 by the template 'for every input the law returns true; each argument reads behind the call as it read before'; 0 by the template 'total and deterministic' (their statements: Qxb6630021aTotals.lean).
  GIVEN WITH THE SEED: the statements are not yours to turn. If you find one false, say at which input.
  Laid BY PROGRAM, IN A SANDBOX (cutbox-rows.mjs): the forced cells as the released guide's own fill.sh prints them over the translation 36b16e0d48a8b625… (all of the seat's roots in one cut). By AI agents, Wed Nov 11 2026. No macro, syntax, notation, axiom, sorry.
-/
import Derived.Test.Qxb6630021aChecked
import GoSem.Claim
import GoSem.ClaimJoined
import GoSem.ClaimMapViews
import Derived.JoinedTies
import Derived.KernelRfl
namespace Go.Proofs.Qxb6630021a
/- THE CELL 'sum', in the pinned program and in every row, IS THE sha256 OF THE DUMP (.gsa) THAT Qxb6630021aProg.lean LOADS. Nothing in Lean hashes anything: it is a label: what it is worth is what the hold of that sum in a sandbox is worth. -/
noncomputable def Try.pinned : Pinned := { name := "qxb6630021a", sum := "36b16e0d48a8b625ae6e45473a506de128fa0a51e7f643f31e33ee84ddab58c4", checked := Try.checked }
namespace Rows
def none {H : Type} : Left H := { results := [], args := [] }

/-- 'zzlaws_money_b1.FnAppendMatchesDigitModel': WHATEVER THE INPUT: true; the input reads as it did. -/
def fnAppendMatchesDigitModelSpec : ChangeSpec := { name := "fnAppendMatchesDigitModel", fn := fun _ => fun
  | [d1, d2] => { results := [.lit (.bool true)], args := [d1, d2] }
  | _ => none }
def fnAppendMatchesDigitModelRow : OpenClaim := { program := "qxb6630021a", sum := "36b16e0d48a8b625ae6e45473a506de128fa0a51e7f643f31e33ee84ddab58c4", func := "example.com/armslength/armslength/zzlaws_money_b1.FnAppendMatchesDigitModel", spec := "fnAppendMatchesDigitModel", apart := false }
def FnAppendMatchesDigitModelSaid : Prop := fnAppendMatchesDigitModelRow.holds Try.pinned (OpenSpec.ofChange fnAppendMatchesDigitModelSpec)

/-- ITS FALSE NEIGHBOUR: 'it returns false'. Refute it at one input. -/
def fnAppendMatchesDigitModelWrong : ChangeSpec := { name := "fnAppendMatchesDigitModel", fn := fun _ => fun
  | [d1, d2] => { results := [.lit (.bool false)], args := [d1, d2] }
  | _ => none }
def FnAppendMatchesDigitModelWrongFalsely : Prop := fnAppendMatchesDigitModelRow.holds Try.pinned (OpenSpec.ofChange fnAppendMatchesDigitModelWrong)

/-- 'zzlaws_money_b1.FnAppendReadsBackAndKeepsPrefix': WHATEVER THE INPUT: true; the input reads as it did. -/
def fnAppendReadsBackAndKeepsPrefixSpec : ChangeSpec := { name := "fnAppendReadsBackAndKeepsPrefix", fn := fun _ => fun
  | [d1, d2] => { results := [.lit (.bool true)], args := [d1, d2] }
  | _ => none }
def fnAppendReadsBackAndKeepsPrefixRow : OpenClaim := { program := "qxb6630021a", sum := "36b16e0d48a8b625ae6e45473a506de128fa0a51e7f643f31e33ee84ddab58c4", func := "example.com/armslength/armslength/zzlaws_money_b1.FnAppendReadsBackAndKeepsPrefix", spec := "fnAppendReadsBackAndKeepsPrefix", apart := false }
def FnAppendReadsBackAndKeepsPrefixSaid : Prop := fnAppendReadsBackAndKeepsPrefixRow.holds Try.pinned (OpenSpec.ofChange fnAppendReadsBackAndKeepsPrefixSpec)

/-- ITS FALSE NEIGHBOUR: 'it returns false'. Refute it at one input. -/
def fnAppendReadsBackAndKeepsPrefixWrong : ChangeSpec := { name := "fnAppendReadsBackAndKeepsPrefix", fn := fun _ => fun
  | [d1, d2] => { results := [.lit (.bool false)], args := [d1, d2] }
  | _ => none }
def FnAppendReadsBackAndKeepsPrefixWrongFalsely : Prop := fnAppendReadsBackAndKeepsPrefixRow.holds Try.pinned (OpenSpec.ofChange fnAppendReadsBackAndKeepsPrefixWrong)

end Rows
end Go.Proofs.Qxb6630021a
