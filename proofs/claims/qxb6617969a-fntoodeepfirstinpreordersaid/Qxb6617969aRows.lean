/-
  NARROWER THAN 'FOR EVERY INPUT', by the rows' own cells (each row's printed sentence says how): FnTooDeepFirstInPreorder: loops.
  DERIVED. THE GIVEN ROWS OF THIS SEAT. 4 by the template 'for every input the law returns true; each argument reads behind the call as it read before'; 0 by the template 'total and deterministic' (their statements: Qxb6617969aTotals.lean).
  GIVEN WITH THE SEED: the statements are not yours to turn. If you find one false, say at which input.
  Laid BY PROGRAM, IN A SANDBOX (cutbox-rows.mjs): the forced cells as the released guide's own fill.sh prints them over the translation 677d10be61aecc8f… (all of the seat's roots in one cut). By AI agents, Wed Nov 11 2026. No macro, syntax, notation, axiom, sorry.
-/
import Derived.Test.Qxb6617969aChecked
import GoSem.Claim
import GoSem.ClaimJoined
import GoSem.ClaimMapViews
import Derived.JoinedTies
import Derived.KernelRfl
namespace Go.Proofs.Qxb6617969a
/- THE CELL 'sum', in the pinned program and in every row, IS THE sha256 OF THE DUMP (.gsa) THAT Qxb6617969aProg.lean LOADS. Nothing in Lean hashes anything: it is a label: what it is worth is what the hold of that sum in a sandbox is worth. -/
noncomputable def Try.pinned : Pinned := { name := "qxb6617969a", sum := "677d10be61aecc8ff1cb45eac3ce60e5ffad23b32c7fa2525c2ce497faf10e94", checked := Try.checked }
namespace Rows
def none {H : Type} : Left H := { results := [], args := [] }

/-- 'zzlaws_internal_yaml_b1.FnBreakAtCutAndMarks': WHATEVER THE INPUT: true; the input reads as it did. -/
def fnBreakAtCutAndMarksSpec : ChangeSpec := { name := "fnBreakAtCutAndMarks", fn := fun _ => fun
  | [d1, d2, d3] => { results := [.lit (.bool true)], args := [d1, d2, d3] }
  | _ => none }
def fnBreakAtCutAndMarksRow : OpenClaim := { program := "qxb6617969a", sum := "677d10be61aecc8ff1cb45eac3ce60e5ffad23b32c7fa2525c2ce497faf10e94", func := "example.com/mortise/mortise/zzlaws_internal_yaml_b1.FnBreakAtCutAndMarks", spec := "fnBreakAtCutAndMarks", apart := false }
def FnBreakAtCutAndMarksSaid : Prop := fnBreakAtCutAndMarksRow.holds Try.pinned (OpenSpec.ofChange fnBreakAtCutAndMarksSpec)

/-- ITS FALSE NEIGHBOUR: 'it returns false'. Refute it at one input. -/
def fnBreakAtCutAndMarksWrong : ChangeSpec := { name := "fnBreakAtCutAndMarks", fn := fun _ => fun
  | [d1, d2, d3] => { results := [.lit (.bool false)], args := [d1, d2, d3] }
  | _ => none }
def FnBreakAtCutAndMarksWrongFalsely : Prop := fnBreakAtCutAndMarksRow.holds Try.pinned (OpenSpec.ofChange fnBreakAtCutAndMarksWrong)

/-- 'zzlaws_internal_yaml_b1.FnTooDeepFirstInPreorder': WHATEVER THE INPUT: true; the input reads as it did. -/
def fnTooDeepFirstInPreorderSpec : ChangeSpec := { name := "fnTooDeepFirstInPreorder", fn := fun _ => fun
  | [d1, d2, d3] => { results := [.lit (.bool true)], args := [d1, d2, d3] }
  | _ => none }
def fnTooDeepFirstInPreorderRow : OpenClaim := { program := "qxb6617969a", sum := "677d10be61aecc8ff1cb45eac3ce60e5ffad23b32c7fa2525c2ce497faf10e94", func := "example.com/mortise/mortise/zzlaws_internal_yaml_b1.FnTooDeepFirstInPreorder", spec := "fnTooDeepFirstInPreorder", recurses := true, loops := true, apart := false }
def FnTooDeepFirstInPreorderSaid : Prop := fnTooDeepFirstInPreorderRow.holds Try.pinned (OpenSpec.ofChange fnTooDeepFirstInPreorderSpec)

/-- ITS FALSE NEIGHBOUR: 'it returns false'. Refute it at one input. -/
def fnTooDeepFirstInPreorderWrong : ChangeSpec := { name := "fnTooDeepFirstInPreorder", fn := fun _ => fun
  | [d1, d2, d3] => { results := [.lit (.bool false)], args := [d1, d2, d3] }
  | _ => none }
def FnTooDeepFirstInPreorderWrongFalsely : Prop := fnTooDeepFirstInPreorderRow.holds Try.pinned (OpenSpec.ofChange fnTooDeepFirstInPreorderWrong)

/-- 'zzlaws_internal_yaml_b1.FnCommentLinesModel': WHATEVER THE INPUT: true; the input reads as it did. -/
def fnCommentLinesModelSpec : ChangeSpec := { name := "fnCommentLinesModel", fn := fun _ => fun
  | [d1, d2, d3] => { results := [.lit (.bool true)], args := [d1, d2, d3] }
  | _ => none }
def fnCommentLinesModelRow : OpenClaim := { program := "qxb6617969a", sum := "677d10be61aecc8ff1cb45eac3ce60e5ffad23b32c7fa2525c2ce497faf10e94", func := "example.com/mortise/mortise/zzlaws_internal_yaml_b1.FnCommentLinesModel", spec := "fnCommentLinesModel", apart := false }
def FnCommentLinesModelSaid : Prop := fnCommentLinesModelRow.holds Try.pinned (OpenSpec.ofChange fnCommentLinesModelSpec)

/-- ITS FALSE NEIGHBOUR: 'it returns false'. Refute it at one input. -/
def fnCommentLinesModelWrong : ChangeSpec := { name := "fnCommentLinesModel", fn := fun _ => fun
  | [d1, d2, d3] => { results := [.lit (.bool false)], args := [d1, d2, d3] }
  | _ => none }
def FnCommentLinesModelWrongFalsely : Prop := fnCommentLinesModelRow.holds Try.pinned (OpenSpec.ofChange fnCommentLinesModelWrong)

/-- 'zzlaws_internal_yaml_b1.FnCommentLinesIdempotentAndMoves': WHATEVER THE INPUT: true; the input reads as it did. -/
def fnCommentLinesIdempotentAndMovesSpec : ChangeSpec := { name := "fnCommentLinesIdempotentAndMoves", fn := fun _ => fun
  | [d1, d2, d3] => { results := [.lit (.bool true)], args := [d1, d2, d3] }
  | _ => none }
def fnCommentLinesIdempotentAndMovesRow : OpenClaim := { program := "qxb6617969a", sum := "677d10be61aecc8ff1cb45eac3ce60e5ffad23b32c7fa2525c2ce497faf10e94", func := "example.com/mortise/mortise/zzlaws_internal_yaml_b1.FnCommentLinesIdempotentAndMoves", spec := "fnCommentLinesIdempotentAndMoves", apart := false }
def FnCommentLinesIdempotentAndMovesSaid : Prop := fnCommentLinesIdempotentAndMovesRow.holds Try.pinned (OpenSpec.ofChange fnCommentLinesIdempotentAndMovesSpec)

/-- ITS FALSE NEIGHBOUR: 'it returns false'. Refute it at one input. -/
def fnCommentLinesIdempotentAndMovesWrong : ChangeSpec := { name := "fnCommentLinesIdempotentAndMoves", fn := fun _ => fun
  | [d1, d2, d3] => { results := [.lit (.bool false)], args := [d1, d2, d3] }
  | _ => none }
def FnCommentLinesIdempotentAndMovesWrongFalsely : Prop := fnCommentLinesIdempotentAndMovesRow.holds Try.pinned (OpenSpec.ofChange fnCommentLinesIdempotentAndMovesWrong)

end Rows
end Go.Proofs.Qxb6617969a
