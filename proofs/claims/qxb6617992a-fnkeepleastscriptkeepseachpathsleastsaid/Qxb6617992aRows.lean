/-
  No cell of these rows narrows 'for every input' (looked for: loops, veiled, ifaces, maps, wideKeys, modest, calm, conditions, laid).
  DERIVED. THE GIVEN ROWS OF THIS SEAT. 3 by the template 'for every input the law returns true; each argument reads behind the call as it read before'; 0 by the template 'total and deterministic' (their statements: Qxb6617992aTotals.lean).
  GIVEN WITH THE SEED: the statements are not yours to turn. If you find one false, say at which input.
  Laid BY PROGRAM, IN A SANDBOX (cutbox-rows.mjs): the forced cells as the released guide's own fill.sh prints them over the translation 0379c4740ffa8f36… (all of the seat's roots in one cut). By AI agents, Wed Nov 11 2026. No macro, syntax, notation, axiom, sorry.
-/
import Derived.Test.Qxb6617992aChecked
import GoSem.Claim
import GoSem.ClaimJoined
import GoSem.ClaimMapViews
import Derived.JoinedTies
import Derived.KernelRfl
namespace Go.Proofs.Qxb6617992a
/- THE CELL 'sum', in the pinned program and in every row, IS THE sha256 OF THE DUMP (.gsa) THAT Qxb6617992aProg.lean LOADS. Nothing in Lean hashes anything: it is a label: what it is worth is what the hold of that sum in a sandbox is worth. -/
noncomputable def Try.pinned : Pinned := { name := "qxb6617992a", sum := "0379c4740ffa8f369f497262506f80f95c9fd4572fda25f440f9ec4900d20995", checked := Try.checked }
namespace Rows
def none {H : Type} : Left H := { results := [], args := [] }

/-- 'zzlaws_store_b1.FnKeepLeastLeavesTheLeastInAnyOrder': WHATEVER THE INPUT: true; the input reads as it did. -/
def fnKeepLeastLeavesTheLeastInAnyOrderSpec : ChangeSpec := { name := "fnKeepLeastLeavesTheLeastInAnyOrder", fn := fun _ => fun
  | [d1, d2, d3, d4, d5] => { results := [.lit (.bool true)], args := [d1, d2, d3, d4, d5] }
  | _ => none }
def fnKeepLeastLeavesTheLeastInAnyOrderRow : OpenClaim := { program := "qxb6617992a", sum := "0379c4740ffa8f369f497262506f80f95c9fd4572fda25f440f9ec4900d20995", func := "example.com/signalkeep/signalkeep/zzlaws_store_b1.FnKeepLeastLeavesTheLeastInAnyOrder", spec := "fnKeepLeastLeavesTheLeastInAnyOrder", apart := false }
def FnKeepLeastLeavesTheLeastInAnyOrderSaid : Prop := fnKeepLeastLeavesTheLeastInAnyOrderRow.holds Try.pinned (OpenSpec.ofChange fnKeepLeastLeavesTheLeastInAnyOrderSpec)

/-- ITS FALSE NEIGHBOUR: 'it returns false'. Refute it at one input. -/
def fnKeepLeastLeavesTheLeastInAnyOrderWrong : ChangeSpec := { name := "fnKeepLeastLeavesTheLeastInAnyOrder", fn := fun _ => fun
  | [d1, d2, d3, d4, d5] => { results := [.lit (.bool false)], args := [d1, d2, d3, d4, d5] }
  | _ => none }
def FnKeepLeastLeavesTheLeastInAnyOrderWrongFalsely : Prop := fnKeepLeastLeavesTheLeastInAnyOrderRow.holds Try.pinned (OpenSpec.ofChange fnKeepLeastLeavesTheLeastInAnyOrderWrong)

/-- 'zzlaws_store_b1.FnKeepLeastScriptKeepsEachPathsLeast': WHATEVER THE INPUT: true; the input reads as it did. -/
def fnKeepLeastScriptKeepsEachPathsLeastSpec : ChangeSpec := { name := "fnKeepLeastScriptKeepsEachPathsLeast", fn := fun _ => fun
  | [d1, d2] => { results := [.lit (.bool true)], args := [d1, d2] }
  | _ => none }
def fnKeepLeastScriptKeepsEachPathsLeastRow : OpenClaim := { program := "qxb6617992a", sum := "0379c4740ffa8f369f497262506f80f95c9fd4572fda25f440f9ec4900d20995", func := "example.com/signalkeep/signalkeep/zzlaws_store_b1.FnKeepLeastScriptKeepsEachPathsLeast", spec := "fnKeepLeastScriptKeepsEachPathsLeast", apart := false }
def FnKeepLeastScriptKeepsEachPathsLeastSaid : Prop := fnKeepLeastScriptKeepsEachPathsLeastRow.holds Try.pinned (OpenSpec.ofChange fnKeepLeastScriptKeepsEachPathsLeastSpec)

/-- ITS FALSE NEIGHBOUR: 'it returns false'. Refute it at one input. -/
def fnKeepLeastScriptKeepsEachPathsLeastWrong : ChangeSpec := { name := "fnKeepLeastScriptKeepsEachPathsLeast", fn := fun _ => fun
  | [d1, d2] => { results := [.lit (.bool false)], args := [d1, d2] }
  | _ => none }
def FnKeepLeastScriptKeepsEachPathsLeastWrongFalsely : Prop := fnKeepLeastScriptKeepsEachPathsLeastRow.holds Try.pinned (OpenSpec.ofChange fnKeepLeastScriptKeepsEachPathsLeastWrong)

/-- 'zzlaws_store_b1.FnIsDirNameIsEachByteAndTheLength': WHATEVER THE INPUT: true; the input reads as it did. -/
def fnIsDirNameIsEachByteAndTheLengthSpec : ChangeSpec := { name := "fnIsDirNameIsEachByteAndTheLength", fn := fun _ => fun
  | [d] => { results := [.lit (.bool true)], args := [d] }
  | _ => none }
def fnIsDirNameIsEachByteAndTheLengthRow : OpenClaim := { program := "qxb6617992a", sum := "0379c4740ffa8f369f497262506f80f95c9fd4572fda25f440f9ec4900d20995", func := "example.com/signalkeep/signalkeep/zzlaws_store_b1.FnIsDirNameIsEachByteAndTheLength", spec := "fnIsDirNameIsEachByteAndTheLength", apart := false }
def FnIsDirNameIsEachByteAndTheLengthSaid : Prop := fnIsDirNameIsEachByteAndTheLengthRow.holds Try.pinned (OpenSpec.ofChange fnIsDirNameIsEachByteAndTheLengthSpec)

/-- ITS FALSE NEIGHBOUR: 'it returns false'. Refute it at one input. -/
def fnIsDirNameIsEachByteAndTheLengthWrong : ChangeSpec := { name := "fnIsDirNameIsEachByteAndTheLength", fn := fun _ => fun
  | [d] => { results := [.lit (.bool false)], args := [d] }
  | _ => none }
def FnIsDirNameIsEachByteAndTheLengthWrongFalsely : Prop := fnIsDirNameIsEachByteAndTheLengthRow.holds Try.pinned (OpenSpec.ofChange fnIsDirNameIsEachByteAndTheLengthWrong)

end Rows
end Go.Proofs.Qxb6617992a
