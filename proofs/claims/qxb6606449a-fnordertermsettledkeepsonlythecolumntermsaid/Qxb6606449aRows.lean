/-
  No cell of these rows narrows 'for every input' (looked for: loops, veiled, ifaces, maps, wideKeys, modest, calm, conditions, laid).
  DERIVED. THE GIVEN ROWS OF THIS SEAT. 3 by the template 'for every input the law returns true; each argument reads behind the call as it read before'; 0 by the template 'total and deterministic' (their statements: Qxb6606449aTotals.lean).
  GIVEN WITH THE SEED: the statements are not yours to turn. If you find one false, say at which input.
  Laid BY PROGRAM, IN A SANDBOX (cutbox-rows.mjs): the forced cells as the released guide's own fill.sh prints them over the translation b74c074673fcd3c9… (all of the seat's roots in one cut). By AI agents, Wed Nov 11 2026. No macro, syntax, notation, axiom, sorry.
-/
import Derived.Test.Qxb6606449aChecked
import GoSem.Claim
import GoSem.ClaimJoined
import GoSem.ClaimMapViews
import Derived.JoinedTies
import Derived.KernelRfl
namespace Go.Proofs.Qxb6606449a
/- THE CELL 'sum', in the pinned program and in every row, IS THE sha256 OF THE DUMP (.gsa) THAT Qxb6606449aProg.lean LOADS. Nothing in Lean hashes anything: it is a label: what it is worth is what the hold of that sum in a sandbox is worth. -/
noncomputable def Try.pinned : Pinned := { name := "qxb6606449a", sum := "b74c074673fcd3c99945caa10bfdeb15ade2bdc3bb7b1af7431129a186d10519", checked := Try.checked }
namespace Rows
def none {H : Type} : Left H := { results := [], args := [] }

/-- 'zzlaws_sqlstore_b1.FnOrderTermIgnoresNameUniqueFlagName': WHATEVER THE INPUT: true; the input reads as it did. -/
def fnOrderTermIgnoresNameUniqueFlagNameSpec : ChangeSpec := { name := "fnOrderTermIgnoresNameUniqueFlagName", fn := fun _ => fun
  | [d1, d2, d3, d4, d5, d6, d7, d8, d9, d10, d11, d12] => { results := [.lit (.bool true)], args := [d1, d2, d3, d4, d5, d6, d7, d8, d9, d10, d11, d12] }
  | _ => none }
def fnOrderTermIgnoresNameUniqueFlagNameRow : OpenClaim := { program := "qxb6606449a", sum := "b74c074673fcd3c99945caa10bfdeb15ade2bdc3bb7b1af7431129a186d10519", func := "example.com/ribbonmark/ribbonmark/zzlaws_sqlstore_b1.FnOrderTermIgnoresNameUniqueFlagName", spec := "fnOrderTermIgnoresNameUniqueFlagName", apart := false }
def FnOrderTermIgnoresNameUniqueFlagNameSaid : Prop := fnOrderTermIgnoresNameUniqueFlagNameRow.holds Try.pinned (OpenSpec.ofChange fnOrderTermIgnoresNameUniqueFlagNameSpec)

/-- ITS FALSE NEIGHBOUR: 'it returns false'. Refute it at one input. -/
def fnOrderTermIgnoresNameUniqueFlagNameWrong : ChangeSpec := { name := "fnOrderTermIgnoresNameUniqueFlagName", fn := fun _ => fun
  | [d1, d2, d3, d4, d5, d6, d7, d8, d9, d10, d11, d12] => { results := [.lit (.bool false)], args := [d1, d2, d3, d4, d5, d6, d7, d8, d9, d10, d11, d12] }
  | _ => none }
def FnOrderTermIgnoresNameUniqueFlagNameWrongFalsely : Prop := fnOrderTermIgnoresNameUniqueFlagNameRow.holds Try.pinned (OpenSpec.ofChange fnOrderTermIgnoresNameUniqueFlagNameWrong)

/-- 'zzlaws_sqlstore_b1.FnOrderTermNullnessLeadsUnplacedTerm': WHATEVER THE INPUT: true; the input reads as it did. -/
def fnOrderTermNullnessLeadsUnplacedTermSpec : ChangeSpec := { name := "fnOrderTermNullnessLeadsUnplacedTerm", fn := fun _ => fun
  | [d1, d2, d3, d4, d5, d6, d7, d8, d9] => { results := [.lit (.bool true)], args := [d1, d2, d3, d4, d5, d6, d7, d8, d9] }
  | _ => none }
def fnOrderTermNullnessLeadsUnplacedTermRow : OpenClaim := { program := "qxb6606449a", sum := "b74c074673fcd3c99945caa10bfdeb15ade2bdc3bb7b1af7431129a186d10519", func := "example.com/ribbonmark/ribbonmark/zzlaws_sqlstore_b1.FnOrderTermNullnessLeadsUnplacedTerm", spec := "fnOrderTermNullnessLeadsUnplacedTerm", apart := false }
def FnOrderTermNullnessLeadsUnplacedTermSaid : Prop := fnOrderTermNullnessLeadsUnplacedTermRow.holds Try.pinned (OpenSpec.ofChange fnOrderTermNullnessLeadsUnplacedTermSpec)

/-- ITS FALSE NEIGHBOUR: 'it returns false'. Refute it at one input. -/
def fnOrderTermNullnessLeadsUnplacedTermWrong : ChangeSpec := { name := "fnOrderTermNullnessLeadsUnplacedTerm", fn := fun _ => fun
  | [d1, d2, d3, d4, d5, d6, d7, d8, d9] => { results := [.lit (.bool false)], args := [d1, d2, d3, d4, d5, d6, d7, d8, d9] }
  | _ => none }
def FnOrderTermNullnessLeadsUnplacedTermWrongFalsely : Prop := fnOrderTermNullnessLeadsUnplacedTermRow.holds Try.pinned (OpenSpec.ofChange fnOrderTermNullnessLeadsUnplacedTermWrong)

/-- 'zzlaws_sqlstore_b1.FnOrderTermSettledKeepsOnlyTheColumnTerm': WHATEVER THE INPUT: true; the input reads as it did. -/
def fnOrderTermSettledKeepsOnlyTheColumnTermSpec : ChangeSpec := { name := "fnOrderTermSettledKeepsOnlyTheColumnTerm", fn := fun _ => fun
  | [d1, d2, d3, d4, d5, d6, d7, d8] => { results := [.lit (.bool true)], args := [d1, d2, d3, d4, d5, d6, d7, d8] }
  | _ => none }
def fnOrderTermSettledKeepsOnlyTheColumnTermRow : OpenClaim := { program := "qxb6606449a", sum := "b74c074673fcd3c99945caa10bfdeb15ade2bdc3bb7b1af7431129a186d10519", func := "example.com/ribbonmark/ribbonmark/zzlaws_sqlstore_b1.FnOrderTermSettledKeepsOnlyTheColumnTerm", spec := "fnOrderTermSettledKeepsOnlyTheColumnTerm", apart := false }
def FnOrderTermSettledKeepsOnlyTheColumnTermSaid : Prop := fnOrderTermSettledKeepsOnlyTheColumnTermRow.holds Try.pinned (OpenSpec.ofChange fnOrderTermSettledKeepsOnlyTheColumnTermSpec)

/-- ITS FALSE NEIGHBOUR: 'it returns false'. Refute it at one input. -/
def fnOrderTermSettledKeepsOnlyTheColumnTermWrong : ChangeSpec := { name := "fnOrderTermSettledKeepsOnlyTheColumnTerm", fn := fun _ => fun
  | [d1, d2, d3, d4, d5, d6, d7, d8] => { results := [.lit (.bool false)], args := [d1, d2, d3, d4, d5, d6, d7, d8] }
  | _ => none }
def FnOrderTermSettledKeepsOnlyTheColumnTermWrongFalsely : Prop := fnOrderTermSettledKeepsOnlyTheColumnTermRow.holds Try.pinned (OpenSpec.ofChange fnOrderTermSettledKeepsOnlyTheColumnTermWrong)

end Rows
end Go.Proofs.Qxb6606449a
