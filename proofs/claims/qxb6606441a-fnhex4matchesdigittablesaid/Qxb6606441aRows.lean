/-
  No cell of these rows narrows 'for every input' (looked for: loops, veiled, ifaces, maps, wideKeys, modest, calm, conditions, laid).
  DERIVED. THE GIVEN ROWS OF THIS SEAT. 3 by the template 'for every input the law returns true; each argument reads behind the call as it read before'; 0 by the template 'total and deterministic' (their statements: Qxb6606441aTotals.lean).
  GIVEN WITH THE SEED: the statements are not yours to turn. If you find one false, say at which input.
  Laid BY PROGRAM, IN A SANDBOX (cutbox-rows.mjs): the forced cells as the released guide's own fill.sh prints them over the translation 81709d73d9dc317c… (all of the seat's roots in one cut). By AI agents, Wed Nov 11 2026. No macro, syntax, notation, axiom, sorry.
-/
import Derived.Test.Qxb6606441aChecked
import GoSem.Claim
import GoSem.ClaimJoined
import GoSem.ClaimMapViews
import Derived.JoinedTies
import Derived.KernelRfl
namespace Go.Proofs.Qxb6606441a
/- THE CELL 'sum', in the pinned program and in every row, IS THE sha256 OF THE DUMP (.gsa) THAT Qxb6606441aProg.lean LOADS. Nothing in Lean hashes anything: it is a label: what it is worth is what the hold of that sum in a sandbox is worth. -/
noncomputable def Try.pinned : Pinned := { name := "qxb6606441a", sum := "81709d73d9dc317c51274df59c2482077ef6506416ba2d975e9ee80bebdca945", checked := Try.checked }
namespace Rows
def none {H : Type} : Left H := { results := [], args := [] }

/-- 'zzlaws_internal_manifest_b1.FnHex4MatchesDigitTable': WHATEVER THE INPUT: true; the input reads as it did. -/
def fnHex4MatchesDigitTableSpec : ChangeSpec := { name := "fnHex4MatchesDigitTable", fn := fun _ => fun
  | [d] => { results := [.lit (.bool true)], args := [d] }
  | _ => none }
def fnHex4MatchesDigitTableRow : OpenClaim := { program := "qxb6606441a", sum := "81709d73d9dc317c51274df59c2482077ef6506416ba2d975e9ee80bebdca945", func := "example.com/lading/lading/zzlaws_internal_manifest_b1.FnHex4MatchesDigitTable", spec := "fnHex4MatchesDigitTable", apart := false }
def FnHex4MatchesDigitTableSaid : Prop := fnHex4MatchesDigitTableRow.holds Try.pinned (OpenSpec.ofChange fnHex4MatchesDigitTableSpec)

/-- ITS FALSE NEIGHBOUR: 'it returns false'. Refute it at one input. -/
def fnHex4MatchesDigitTableWrong : ChangeSpec := { name := "fnHex4MatchesDigitTable", fn := fun _ => fun
  | [d] => { results := [.lit (.bool false)], args := [d] }
  | _ => none }
def FnHex4MatchesDigitTableWrongFalsely : Prop := fnHex4MatchesDigitTableRow.holds Try.pinned (OpenSpec.ofChange fnHex4MatchesDigitTableWrong)

/-- 'zzlaws_internal_manifest_b1.FnHex4ReadsBackFormattedNumber': WHATEVER THE INPUT: true; the input reads as it did. -/
def fnHex4ReadsBackFormattedNumberSpec : ChangeSpec := { name := "fnHex4ReadsBackFormattedNumber", fn := fun _ => fun
  | [d1, d2] => { results := [.lit (.bool true)], args := [d1, d2] }
  | _ => none }
def fnHex4ReadsBackFormattedNumberRow : OpenClaim := { program := "qxb6606441a", sum := "81709d73d9dc317c51274df59c2482077ef6506416ba2d975e9ee80bebdca945", func := "example.com/lading/lading/zzlaws_internal_manifest_b1.FnHex4ReadsBackFormattedNumber", spec := "fnHex4ReadsBackFormattedNumber", apart := false }
def FnHex4ReadsBackFormattedNumberSaid : Prop := fnHex4ReadsBackFormattedNumberRow.holds Try.pinned (OpenSpec.ofChange fnHex4ReadsBackFormattedNumberSpec)

/-- ITS FALSE NEIGHBOUR: 'it returns false'. Refute it at one input. -/
def fnHex4ReadsBackFormattedNumberWrong : ChangeSpec := { name := "fnHex4ReadsBackFormattedNumber", fn := fun _ => fun
  | [d1, d2] => { results := [.lit (.bool false)], args := [d1, d2] }
  | _ => none }
def FnHex4ReadsBackFormattedNumberWrongFalsely : Prop := fnHex4ReadsBackFormattedNumberRow.holds Try.pinned (OpenSpec.ofChange fnHex4ReadsBackFormattedNumberWrong)

/-- 'zzlaws_internal_manifest_b1.FnHex4StaysWithinTwentyBits': WHATEVER THE INPUT: true; the input reads as it did. -/
def fnHex4StaysWithinTwentyBitsSpec : ChangeSpec := { name := "fnHex4StaysWithinTwentyBits", fn := fun _ => fun
  | [d] => { results := [.lit (.bool true)], args := [d] }
  | _ => none }
def fnHex4StaysWithinTwentyBitsRow : OpenClaim := { program := "qxb6606441a", sum := "81709d73d9dc317c51274df59c2482077ef6506416ba2d975e9ee80bebdca945", func := "example.com/lading/lading/zzlaws_internal_manifest_b1.FnHex4StaysWithinTwentyBits", spec := "fnHex4StaysWithinTwentyBits", apart := false }
def FnHex4StaysWithinTwentyBitsSaid : Prop := fnHex4StaysWithinTwentyBitsRow.holds Try.pinned (OpenSpec.ofChange fnHex4StaysWithinTwentyBitsSpec)

/-- ITS FALSE NEIGHBOUR: 'it returns false'. Refute it at one input. -/
def fnHex4StaysWithinTwentyBitsWrong : ChangeSpec := { name := "fnHex4StaysWithinTwentyBits", fn := fun _ => fun
  | [d] => { results := [.lit (.bool false)], args := [d] }
  | _ => none }
def FnHex4StaysWithinTwentyBitsWrongFalsely : Prop := fnHex4StaysWithinTwentyBitsRow.holds Try.pinned (OpenSpec.ofChange fnHex4StaysWithinTwentyBitsWrong)

end Rows
end Go.Proofs.Qxb6606441a
