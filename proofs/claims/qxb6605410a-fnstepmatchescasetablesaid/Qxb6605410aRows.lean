/-
  No cell of these rows narrows 'for every input' (looked for: loops, veiled, ifaces, maps, wideKeys, modest, calm, conditions, laid).
  DERIVED. THE GIVEN ROWS OF THIS SEAT. 4 by the template 'for every input the law returns true; each argument reads behind the call as it read before'; 0 by the template 'total and deterministic' (their statements: Qxb6605410aTotals.lean).
  GIVEN WITH THE SEED: the statements are not yours to turn. If you find one false, say at which input.
  Laid BY PROGRAM, IN A SANDBOX (cutbox-rows.mjs): the forced cells as the released guide's own fill.sh prints them over the translation 1b3f0c082f7772eb… (all of the seat's roots in one cut). By AI agents, Wed Nov 11 2026. No macro, syntax, notation, axiom, sorry.
-/
import Derived.Test.Qxb6605410aChecked
import GoSem.Claim
import GoSem.ClaimJoined
import GoSem.ClaimMapViews
import Derived.JoinedTies
import Derived.KernelRfl
namespace Go.Proofs.Qxb6605410a
/- THE CELL 'sum', in the pinned program and in every row, IS THE sha256 OF THE DUMP (.gsa) THAT Qxb6605410aProg.lean LOADS. Nothing in Lean hashes anything: it is a label: what it is worth is what the hold of that sum in a sandbox is worth. -/
noncomputable def Try.pinned : Pinned := { name := "qxb6605410a", sum := "1b3f0c082f7772eb2ef88246e7e422a2827c1cd8b4e70423bb4588d28e8f9cde", checked := Try.checked }
namespace Rows
def none {H : Type} : Left H := { results := [], args := [] }

/-- 'zzlaws_internal_typeproblems_b1.FnEscapedRuneMatchesHexModel': WHATEVER THE INPUT: true; the input reads as it did. -/
def fnEscapedRuneMatchesHexModelSpec : ChangeSpec := { name := "fnEscapedRuneMatchesHexModel", fn := fun _ => fun
  | [d] => { results := [.lit (.bool true)], args := [d] }
  | _ => none }
def fnEscapedRuneMatchesHexModelRow : OpenClaim := { program := "qxb6605410a", sum := "1b3f0c082f7772eb2ef88246e7e422a2827c1cd8b4e70423bb4588d28e8f9cde", func := "example.com/labeled-errors/labeled-errors/zzlaws_internal_typeproblems_b1.FnEscapedRuneMatchesHexModel", spec := "fnEscapedRuneMatchesHexModel", apart := false }
def FnEscapedRuneMatchesHexModelSaid : Prop := fnEscapedRuneMatchesHexModelRow.holds Try.pinned (OpenSpec.ofChange fnEscapedRuneMatchesHexModelSpec)

/-- ITS FALSE NEIGHBOUR: 'it returns false'. Refute it at one input. -/
def fnEscapedRuneMatchesHexModelWrong : ChangeSpec := { name := "fnEscapedRuneMatchesHexModel", fn := fun _ => fun
  | [d] => { results := [.lit (.bool false)], args := [d] }
  | _ => none }
def FnEscapedRuneMatchesHexModelWrongFalsely : Prop := fnEscapedRuneMatchesHexModelRow.holds Try.pinned (OpenSpec.ofChange fnEscapedRuneMatchesHexModelWrong)

/-- 'zzlaws_internal_typeproblems_b1.FnEscapedRuneReadsWrittenEscape': WHATEVER THE INPUT: true; the input reads as it did. -/
def fnEscapedRuneReadsWrittenEscapeSpec : ChangeSpec := { name := "fnEscapedRuneReadsWrittenEscape", fn := fun _ => fun
  | [d1, d2, d3] => { results := [.lit (.bool true)], args := [d1, d2, d3] }
  | _ => none }
def fnEscapedRuneReadsWrittenEscapeRow : OpenClaim := { program := "qxb6605410a", sum := "1b3f0c082f7772eb2ef88246e7e422a2827c1cd8b4e70423bb4588d28e8f9cde", func := "example.com/labeled-errors/labeled-errors/zzlaws_internal_typeproblems_b1.FnEscapedRuneReadsWrittenEscape", spec := "fnEscapedRuneReadsWrittenEscape", apart := false }
def FnEscapedRuneReadsWrittenEscapeSaid : Prop := fnEscapedRuneReadsWrittenEscapeRow.holds Try.pinned (OpenSpec.ofChange fnEscapedRuneReadsWrittenEscapeSpec)

/-- ITS FALSE NEIGHBOUR: 'it returns false'. Refute it at one input. -/
def fnEscapedRuneReadsWrittenEscapeWrong : ChangeSpec := { name := "fnEscapedRuneReadsWrittenEscape", fn := fun _ => fun
  | [d1, d2, d3] => { results := [.lit (.bool false)], args := [d1, d2, d3] }
  | _ => none }
def FnEscapedRuneReadsWrittenEscapeWrongFalsely : Prop := fnEscapedRuneReadsWrittenEscapeRow.holds Try.pinned (OpenSpec.ofChange fnEscapedRuneReadsWrittenEscapeWrong)

/-- 'zzlaws_internal_typeproblems_b1.FnStepMatchesCaseTable': WHATEVER THE INPUT: true; the input reads as it did. -/
def fnStepMatchesCaseTableSpec : ChangeSpec := { name := "fnStepMatchesCaseTable", fn := fun _ => fun
  | [d1, d2, d3, d4, d5, d6, d7, d8] => { results := [.lit (.bool true)], args := [d1, d2, d3, d4, d5, d6, d7, d8] }
  | _ => none }
def fnStepMatchesCaseTableRow : OpenClaim := { program := "qxb6605410a", sum := "1b3f0c082f7772eb2ef88246e7e422a2827c1cd8b4e70423bb4588d28e8f9cde", func := "example.com/labeled-errors/labeled-errors/zzlaws_internal_typeproblems_b1.FnStepMatchesCaseTable", spec := "fnStepMatchesCaseTable", apart := false }
def FnStepMatchesCaseTableSaid : Prop := fnStepMatchesCaseTableRow.holds Try.pinned (OpenSpec.ofChange fnStepMatchesCaseTableSpec)

/-- ITS FALSE NEIGHBOUR: 'it returns false'. Refute it at one input. -/
def fnStepMatchesCaseTableWrong : ChangeSpec := { name := "fnStepMatchesCaseTable", fn := fun _ => fun
  | [d1, d2, d3, d4, d5, d6, d7, d8] => { results := [.lit (.bool false)], args := [d1, d2, d3, d4, d5, d6, d7, d8] }
  | _ => none }
def FnStepMatchesCaseTableWrongFalsely : Prop := fnStepMatchesCaseTableRow.holds Try.pinned (OpenSpec.ofChange fnStepMatchesCaseTableWrong)

/-- 'zzlaws_internal_typeproblems_b1.FnStepWalksBuiltObject': WHATEVER THE INPUT: true; the input reads as it did. -/
def fnStepWalksBuiltObjectSpec : ChangeSpec := { name := "fnStepWalksBuiltObject", fn := fun _ => fun
  | [d] => { results := [.lit (.bool true)], args := [d] }
  | _ => none }
def fnStepWalksBuiltObjectRow : OpenClaim := { program := "qxb6605410a", sum := "1b3f0c082f7772eb2ef88246e7e422a2827c1cd8b4e70423bb4588d28e8f9cde", func := "example.com/labeled-errors/labeled-errors/zzlaws_internal_typeproblems_b1.FnStepWalksBuiltObject", spec := "fnStepWalksBuiltObject", apart := false }
def FnStepWalksBuiltObjectSaid : Prop := fnStepWalksBuiltObjectRow.holds Try.pinned (OpenSpec.ofChange fnStepWalksBuiltObjectSpec)

/-- ITS FALSE NEIGHBOUR: 'it returns false'. Refute it at one input. -/
def fnStepWalksBuiltObjectWrong : ChangeSpec := { name := "fnStepWalksBuiltObject", fn := fun _ => fun
  | [d] => { results := [.lit (.bool false)], args := [d] }
  | _ => none }
def FnStepWalksBuiltObjectWrongFalsely : Prop := fnStepWalksBuiltObjectRow.holds Try.pinned (OpenSpec.ofChange fnStepWalksBuiltObjectWrong)

end Rows
end Go.Proofs.Qxb6605410a
