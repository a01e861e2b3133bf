/-
  No cell of these rows narrows 'for every input' (looked for: loops, veiled, ifaces, maps, wideKeys, modest, calm, conditions, laid).
  DERIVED. THE GIVEN ROWS OF THIS SEAT. 4 by the template 'for every input the law returns true; each argument reads behind the call as it read before'; 0 by the template 'total and deterministic' (their statements: Qxb6003690aTotals.lean).
  GIVEN WITH THE SEED: the statements are not yours to turn. If you find one false, say at which input.
  Laid BY PROGRAM, IN A SANDBOX (cutbox-rows.mjs): the forced cells as the released guide's own fill.sh prints them over the translation 7f4bc81839c7de36… (all of the seat's roots in one cut). By AI agents, Wed Nov 11 2026. No macro, syntax, notation, axiom, sorry.
-/
import Derived.Test.Qxb6003690aChecked
import GoSem.Claim
import GoSem.ClaimJoined
import GoSem.ClaimMapViews
import Derived.JoinedTies
import Derived.KernelRfl
namespace Go.Proofs.Qxb6003690a
/- THE CELL 'sum', in the pinned program and in every row, IS THE sha256 OF THE DUMP (.gsa) THAT Qxb6003690aProg.lean LOADS. Nothing in Lean hashes anything: it is a label: what it is worth is what the hold of that sum in a sandbox is worth. -/
noncomputable def Try.pinned : Pinned := { name := "qxb6003690a", sum := "7f4bc81839c7de3693a67431ad76d325fbae1e871e76f7c61189d24f6b861f82", checked := Try.checked }
namespace Rows
def none {H : Type} : Left H := { results := [], args := [] }

/-- 'zzlaws_internal_yaml_g1.FnBlocksAddIndexesInOrder': WHATEVER THE INPUT: true; the input reads as it did. -/
def fnBlocksAddIndexesInOrderSpec : ChangeSpec := { name := "fnBlocksAddIndexesInOrder", fn := fun _ => fun
  | [d] => { results := [.lit (.bool true)], args := [d] }
  | _ => none }
def fnBlocksAddIndexesInOrderRow : OpenClaim := { program := "qxb6003690a", sum := "7f4bc81839c7de3693a67431ad76d325fbae1e871e76f7c61189d24f6b861f82", func := "example.com/oropendola/oropendola/zzlaws_internal_yaml_g1.FnBlocksAddIndexesInOrder", spec := "fnBlocksAddIndexesInOrder", apart := false }
def FnBlocksAddIndexesInOrderSaid : Prop := fnBlocksAddIndexesInOrderRow.holds Try.pinned (OpenSpec.ofChange fnBlocksAddIndexesInOrderSpec)

/-- ITS FALSE NEIGHBOUR: 'it returns false'. Refute it at one input. -/
def fnBlocksAddIndexesInOrderWrong : ChangeSpec := { name := "fnBlocksAddIndexesInOrder", fn := fun _ => fun
  | [d] => { results := [.lit (.bool false)], args := [d] }
  | _ => none }
def FnBlocksAddIndexesInOrderWrongFalsely : Prop := fnBlocksAddIndexesInOrderRow.holds Try.pinned (OpenSpec.ofChange fnBlocksAddIndexesInOrderWrong)

/-- 'zzlaws_internal_yaml_g1.FnPutKeepsLastWritePerHandle': WHATEVER THE INPUT: true; the input reads as it did. -/
def fnPutKeepsLastWritePerHandleSpec : ChangeSpec := { name := "fnPutKeepsLastWritePerHandle", fn := fun _ => fun
  | [d1, d2] => { results := [.lit (.bool true)], args := [d1, d2] }
  | _ => none }
def fnPutKeepsLastWritePerHandleRow : OpenClaim := { program := "qxb6003690a", sum := "7f4bc81839c7de3693a67431ad76d325fbae1e871e76f7c61189d24f6b861f82", func := "example.com/oropendola/oropendola/zzlaws_internal_yaml_g1.FnPutKeepsLastWritePerHandle", spec := "fnPutKeepsLastWritePerHandle", apart := false }
def FnPutKeepsLastWritePerHandleSaid : Prop := fnPutKeepsLastWritePerHandleRow.holds Try.pinned (OpenSpec.ofChange fnPutKeepsLastWritePerHandleSpec)

/-- ITS FALSE NEIGHBOUR: 'it returns false'. Refute it at one input. -/
def fnPutKeepsLastWritePerHandleWrong : ChangeSpec := { name := "fnPutKeepsLastWritePerHandle", fn := fun _ => fun
  | [d1, d2] => { results := [.lit (.bool false)], args := [d1, d2] }
  | _ => none }
def FnPutKeepsLastWritePerHandleWrongFalsely : Prop := fnPutKeepsLastWritePerHandleRow.holds Try.pinned (OpenSpec.ofChange fnPutKeepsLastWritePerHandleWrong)

/-- 'zzlaws_internal_yaml_g2.FnBlocksLenCountsEveryAdd': WHATEVER THE INPUT: true; the input reads as it did. -/
def fnBlocksLenCountsEveryAddSpec : ChangeSpec := { name := "fnBlocksLenCountsEveryAdd", fn := fun _ => fun
  | [d] => { results := [.lit (.bool true)], args := [d] }
  | _ => none }
def fnBlocksLenCountsEveryAddRow : OpenClaim := { program := "qxb6003690a", sum := "7f4bc81839c7de3693a67431ad76d325fbae1e871e76f7c61189d24f6b861f82", func := "example.com/oropendola/oropendola/zzlaws_internal_yaml_g2.FnBlocksLenCountsEveryAdd", spec := "fnBlocksLenCountsEveryAdd", apart := false }
def FnBlocksLenCountsEveryAddSaid : Prop := fnBlocksLenCountsEveryAddRow.holds Try.pinned (OpenSpec.ofChange fnBlocksLenCountsEveryAddSpec)

/-- ITS FALSE NEIGHBOUR: 'it returns false'. Refute it at one input. -/
def fnBlocksLenCountsEveryAddWrong : ChangeSpec := { name := "fnBlocksLenCountsEveryAdd", fn := fun _ => fun
  | [d] => { results := [.lit (.bool false)], args := [d] }
  | _ => none }
def FnBlocksLenCountsEveryAddWrongFalsely : Prop := fnBlocksLenCountsEveryAddRow.holds Try.pinned (OpenSpec.ofChange fnBlocksLenCountsEveryAddWrong)

/-- 'zzlaws_internal_yaml_g2.FnBlocksPutKeepsHandles': WHATEVER THE INPUT: true; the input reads as it did. -/
def fnBlocksPutKeepsHandlesSpec : ChangeSpec := { name := "fnBlocksPutKeepsHandles", fn := fun _ => fun
  | [d1, d2] => { results := [.lit (.bool true)], args := [d1, d2] }
  | _ => none }
def fnBlocksPutKeepsHandlesRow : OpenClaim := { program := "qxb6003690a", sum := "7f4bc81839c7de3693a67431ad76d325fbae1e871e76f7c61189d24f6b861f82", func := "example.com/oropendola/oropendola/zzlaws_internal_yaml_g2.FnBlocksPutKeepsHandles", spec := "fnBlocksPutKeepsHandles", apart := false }
def FnBlocksPutKeepsHandlesSaid : Prop := fnBlocksPutKeepsHandlesRow.holds Try.pinned (OpenSpec.ofChange fnBlocksPutKeepsHandlesSpec)

/-- ITS FALSE NEIGHBOUR: 'it returns false'. Refute it at one input. -/
def fnBlocksPutKeepsHandlesWrong : ChangeSpec := { name := "fnBlocksPutKeepsHandles", fn := fun _ => fun
  | [d1, d2] => { results := [.lit (.bool false)], args := [d1, d2] }
  | _ => none }
def FnBlocksPutKeepsHandlesWrongFalsely : Prop := fnBlocksPutKeepsHandlesRow.holds Try.pinned (OpenSpec.ofChange fnBlocksPutKeepsHandlesWrong)

end Rows
end Go.Proofs.Qxb6003690a
