/-
  No cell of these rows narrows 'for every input' (looked for: loops, veiled, ifaces, maps, wideKeys, modest, calm, conditions, laid).
  DERIVED. THE GIVEN ROWS OF THIS SEAT. 9 by the template 'for every input the law returns true; each argument reads behind the call as it read before'; 0 by the template 'total and deterministic' (their statements: Qxb6000678aTotals.lean).
  GIVEN WITH THE SEED: the statements are not yours to turn. If you find one false, say at which input.
  Laid BY PROGRAM, IN A SANDBOX (cutbox-rows.mjs): the forced cells as the released guide's own fill.sh prints them over the translation 662b40e4eb4596cc… (all of the seat's roots in one cut). By AI agents, Wed Nov 11 2026. No macro, syntax, notation, axiom, sorry.
-/
import Derived.Test.Qxb6000678aChecked
import GoSem.Claim
import GoSem.ClaimJoined
import GoSem.ClaimMapViews
import Derived.JoinedTies
import Derived.KernelRfl
namespace Go.Proofs.Qxb6000678a
/- THE CELL 'sum', in the pinned program and in every row, IS THE sha256 OF THE DUMP (.gsa) THAT Qxb6000678aProg.lean LOADS. Nothing in Lean hashes anything: it is a label: what it is worth is what the hold of that sum in a sandbox is worth. -/
noncomputable def Try.pinned : Pinned := { name := "qxb6000678a", sum := "662b40e4eb4596cce8612aeea5e07771e0c6a6cf36c1a07859a33a0de7079235", checked := Try.checked }
namespace Rows
def none {H : Type} : Left H := { results := [], args := [] }

/-- 'zzlaws_index_yamltext_b1.FnLineBreakMatchesTable': WHATEVER THE INPUT: true; the input reads as it did. -/
def fnLineBreakMatchesTableSpec : ChangeSpec := { name := "fnLineBreakMatchesTable", fn := fun _ => fun
  | [d] => { results := [.lit (.bool true)], args := [d] }
  | _ => none }
def fnLineBreakMatchesTableRow : OpenClaim := { program := "qxb6000678a", sum := "662b40e4eb4596cce8612aeea5e07771e0c6a6cf36c1a07859a33a0de7079235", func := "example.com/chartwright/chartwright/zzlaws_index_yamltext_b1.FnLineBreakMatchesTable", spec := "fnLineBreakMatchesTable", apart := false }
def FnLineBreakMatchesTableSaid : Prop := fnLineBreakMatchesTableRow.holds Try.pinned (OpenSpec.ofChange fnLineBreakMatchesTableSpec)

/-- ITS FALSE NEIGHBOUR: 'it returns false'. Refute it at one input. -/
def fnLineBreakMatchesTableWrong : ChangeSpec := { name := "fnLineBreakMatchesTable", fn := fun _ => fun
  | [d] => { results := [.lit (.bool false)], args := [d] }
  | _ => none }
def FnLineBreakMatchesTableWrongFalsely : Prop := fnLineBreakMatchesTableRow.holds Try.pinned (OpenSpec.ofChange fnLineBreakMatchesTableWrong)

/-- 'zzlaws_index_yamltext_b1.FnLineBreakKeptByMore': WHATEVER THE INPUT: true; the input reads as it did. -/
def fnLineBreakKeptByMoreSpec : ChangeSpec := { name := "fnLineBreakKeptByMore", fn := fun _ => fun
  | [d1, d2] => { results := [.lit (.bool true)], args := [d1, d2] }
  | _ => none }
def fnLineBreakKeptByMoreRow : OpenClaim := { program := "qxb6000678a", sum := "662b40e4eb4596cce8612aeea5e07771e0c6a6cf36c1a07859a33a0de7079235", func := "example.com/chartwright/chartwright/zzlaws_index_yamltext_b1.FnLineBreakKeptByMore", spec := "fnLineBreakKeptByMore", apart := false }
def FnLineBreakKeptByMoreSaid : Prop := fnLineBreakKeptByMoreRow.holds Try.pinned (OpenSpec.ofChange fnLineBreakKeptByMoreSpec)

/-- ITS FALSE NEIGHBOUR: 'it returns false'. Refute it at one input. -/
def fnLineBreakKeptByMoreWrong : ChangeSpec := { name := "fnLineBreakKeptByMore", fn := fun _ => fun
  | [d1, d2] => { results := [.lit (.bool false)], args := [d1, d2] }
  | _ => none }
def FnLineBreakKeptByMoreWrongFalsely : Prop := fnLineBreakKeptByMoreRow.holds Try.pinned (OpenSpec.ofChange fnLineBreakKeptByMoreWrong)

/-- 'zzlaws_index_yamltext_b1.FnLineBreakOfRune': WHATEVER THE INPUT: true; the input reads as it did. -/
def fnLineBreakOfRuneSpec : ChangeSpec := { name := "fnLineBreakOfRune", fn := fun _ => fun
  | [d1, d2] => { results := [.lit (.bool true)], args := [d1, d2] }
  | _ => none }
def fnLineBreakOfRuneRow : OpenClaim := { program := "qxb6000678a", sum := "662b40e4eb4596cce8612aeea5e07771e0c6a6cf36c1a07859a33a0de7079235", func := "example.com/chartwright/chartwright/zzlaws_index_yamltext_b1.FnLineBreakOfRune", spec := "fnLineBreakOfRune", apart := false }
def FnLineBreakOfRuneSaid : Prop := fnLineBreakOfRuneRow.holds Try.pinned (OpenSpec.ofChange fnLineBreakOfRuneSpec)

/-- ITS FALSE NEIGHBOUR: 'it returns false'. Refute it at one input. -/
def fnLineBreakOfRuneWrong : ChangeSpec := { name := "fnLineBreakOfRune", fn := fun _ => fun
  | [d1, d2] => { results := [.lit (.bool false)], args := [d1, d2] }
  | _ => none }
def FnLineBreakOfRuneWrongFalsely : Prop := fnLineBreakOfRuneRow.holds Try.pinned (OpenSpec.ofChange fnLineBreakOfRuneWrong)

/-- 'zzlaws_index_yamltext_b1.FnDoubleQuotedMergeCountsLessThans': WHATEVER THE INPUT: true; the input reads as it did. -/
def fnDoubleQuotedMergeCountsLessThansSpec : ChangeSpec := { name := "fnDoubleQuotedMergeCountsLessThans", fn := fun _ => fun
  | [d1, d2, d3] => { results := [.lit (.bool true)], args := [d1, d2, d3] }
  | _ => none }
def fnDoubleQuotedMergeCountsLessThansRow : OpenClaim := { program := "qxb6000678a", sum := "662b40e4eb4596cce8612aeea5e07771e0c6a6cf36c1a07859a33a0de7079235", func := "example.com/chartwright/chartwright/zzlaws_index_yamltext_b1.FnDoubleQuotedMergeCountsLessThans", spec := "fnDoubleQuotedMergeCountsLessThans", apart := false }
def FnDoubleQuotedMergeCountsLessThansSaid : Prop := fnDoubleQuotedMergeCountsLessThansRow.holds Try.pinned (OpenSpec.ofChange fnDoubleQuotedMergeCountsLessThansSpec)

/-- ITS FALSE NEIGHBOUR: 'it returns false'. Refute it at one input. -/
def fnDoubleQuotedMergeCountsLessThansWrong : ChangeSpec := { name := "fnDoubleQuotedMergeCountsLessThans", fn := fun _ => fun
  | [d1, d2, d3] => { results := [.lit (.bool false)], args := [d1, d2, d3] }
  | _ => none }
def FnDoubleQuotedMergeCountsLessThansWrongFalsely : Prop := fnDoubleQuotedMergeCountsLessThansRow.holds Try.pinned (OpenSpec.ofChange fnDoubleQuotedMergeCountsLessThansWrong)

/-- 'zzlaws_index_yamltext_b1.FnDoubleQuotedMergeUnclosedRefused': WHATEVER THE INPUT: true; the input reads as it did. -/
def fnDoubleQuotedMergeUnclosedRefusedSpec : ChangeSpec := { name := "fnDoubleQuotedMergeUnclosedRefused", fn := fun _ => fun
  | [d] => { results := [.lit (.bool true)], args := [d] }
  | _ => none }
def fnDoubleQuotedMergeUnclosedRefusedRow : OpenClaim := { program := "qxb6000678a", sum := "662b40e4eb4596cce8612aeea5e07771e0c6a6cf36c1a07859a33a0de7079235", func := "example.com/chartwright/chartwright/zzlaws_index_yamltext_b1.FnDoubleQuotedMergeUnclosedRefused", spec := "fnDoubleQuotedMergeUnclosedRefused", apart := false }
def FnDoubleQuotedMergeUnclosedRefusedSaid : Prop := fnDoubleQuotedMergeUnclosedRefusedRow.holds Try.pinned (OpenSpec.ofChange fnDoubleQuotedMergeUnclosedRefusedSpec)

/-- ITS FALSE NEIGHBOUR: 'it returns false'. Refute it at one input. -/
def fnDoubleQuotedMergeUnclosedRefusedWrong : ChangeSpec := { name := "fnDoubleQuotedMergeUnclosedRefused", fn := fun _ => fun
  | [d] => { results := [.lit (.bool false)], args := [d] }
  | _ => none }
def FnDoubleQuotedMergeUnclosedRefusedWrongFalsely : Prop := fnDoubleQuotedMergeUnclosedRefusedRow.holds Try.pinned (OpenSpec.ofChange fnDoubleQuotedMergeUnclosedRefusedWrong)

/-- 'zzlaws_index_yamltext_b1.FnDoubleQuotedMergeKeptByTail': WHATEVER THE INPUT: true; the input reads as it did. -/
def fnDoubleQuotedMergeKeptByTailSpec : ChangeSpec := { name := "fnDoubleQuotedMergeKeptByTail", fn := fun _ => fun
  | [d1, d2] => { results := [.lit (.bool true)], args := [d1, d2] }
  | _ => none }
def fnDoubleQuotedMergeKeptByTailRow : OpenClaim := { program := "qxb6000678a", sum := "662b40e4eb4596cce8612aeea5e07771e0c6a6cf36c1a07859a33a0de7079235", func := "example.com/chartwright/chartwright/zzlaws_index_yamltext_b1.FnDoubleQuotedMergeKeptByTail", spec := "fnDoubleQuotedMergeKeptByTail", apart := false }
def FnDoubleQuotedMergeKeptByTailSaid : Prop := fnDoubleQuotedMergeKeptByTailRow.holds Try.pinned (OpenSpec.ofChange fnDoubleQuotedMergeKeptByTailSpec)

/-- ITS FALSE NEIGHBOUR: 'it returns false'. Refute it at one input. -/
def fnDoubleQuotedMergeKeptByTailWrong : ChangeSpec := { name := "fnDoubleQuotedMergeKeptByTail", fn := fun _ => fun
  | [d1, d2] => { results := [.lit (.bool false)], args := [d1, d2] }
  | _ => none }
def FnDoubleQuotedMergeKeptByTailWrongFalsely : Prop := fnDoubleQuotedMergeKeptByTailRow.holds Try.pinned (OpenSpec.ofChange fnDoubleQuotedMergeKeptByTailWrong)

/-- 'zzlaws_index_yamltext_b1.FnBlockMergeBuilt': WHATEVER THE INPUT: true; the input reads as it did. -/
def fnBlockMergeBuiltSpec : ChangeSpec := { name := "fnBlockMergeBuilt", fn := fun _ => fun
  | [d1, d2, d3, d4, d5, d6, d7, d8, d9, d10, d11] => { results := [.lit (.bool true)], args := [d1, d2, d3, d4, d5, d6, d7, d8, d9, d10, d11] }
  | _ => none }
def fnBlockMergeBuiltRow : OpenClaim := { program := "qxb6000678a", sum := "662b40e4eb4596cce8612aeea5e07771e0c6a6cf36c1a07859a33a0de7079235", func := "example.com/chartwright/chartwright/zzlaws_index_yamltext_b1.FnBlockMergeBuilt", spec := "fnBlockMergeBuilt", apart := false }
def FnBlockMergeBuiltSaid : Prop := fnBlockMergeBuiltRow.holds Try.pinned (OpenSpec.ofChange fnBlockMergeBuiltSpec)

/-- ITS FALSE NEIGHBOUR: 'it returns false'. Refute it at one input. -/
def fnBlockMergeBuiltWrong : ChangeSpec := { name := "fnBlockMergeBuilt", fn := fun _ => fun
  | [d1, d2, d3, d4, d5, d6, d7, d8, d9, d10, d11] => { results := [.lit (.bool false)], args := [d1, d2, d3, d4, d5, d6, d7, d8, d9, d10, d11] }
  | _ => none }
def FnBlockMergeBuiltWrongFalsely : Prop := fnBlockMergeBuiltRow.holds Try.pinned (OpenSpec.ofChange fnBlockMergeBuiltWrong)

/-- 'zzlaws_index_yamltext_b1.FnBlockMergeExplicitIndentNoLooser': WHATEVER THE INPUT: true; the input reads as it did. -/
def fnBlockMergeExplicitIndentNoLooserSpec : ChangeSpec := { name := "fnBlockMergeExplicitIndentNoLooser", fn := fun _ => fun
  | [d1, d2, d3] => { results := [.lit (.bool true)], args := [d1, d2, d3] }
  | _ => none }
def fnBlockMergeExplicitIndentNoLooserRow : OpenClaim := { program := "qxb6000678a", sum := "662b40e4eb4596cce8612aeea5e07771e0c6a6cf36c1a07859a33a0de7079235", func := "example.com/chartwright/chartwright/zzlaws_index_yamltext_b1.FnBlockMergeExplicitIndentNoLooser", spec := "fnBlockMergeExplicitIndentNoLooser", apart := false }
def FnBlockMergeExplicitIndentNoLooserSaid : Prop := fnBlockMergeExplicitIndentNoLooserRow.holds Try.pinned (OpenSpec.ofChange fnBlockMergeExplicitIndentNoLooserSpec)

/-- ITS FALSE NEIGHBOUR: 'it returns false'. Refute it at one input. -/
def fnBlockMergeExplicitIndentNoLooserWrong : ChangeSpec := { name := "fnBlockMergeExplicitIndentNoLooser", fn := fun _ => fun
  | [d1, d2, d3] => { results := [.lit (.bool false)], args := [d1, d2, d3] }
  | _ => none }
def FnBlockMergeExplicitIndentNoLooserWrongFalsely : Prop := fnBlockMergeExplicitIndentNoLooserRow.holds Try.pinned (OpenSpec.ofChange fnBlockMergeExplicitIndentNoLooserWrong)

/-- 'zzlaws_index_yamltext_b1.FnBlockMergeUnstrippedEndsAtMerge': WHATEVER THE INPUT: true; the input reads as it did. -/
def fnBlockMergeUnstrippedEndsAtMergeSpec : ChangeSpec := { name := "fnBlockMergeUnstrippedEndsAtMerge", fn := fun _ => fun
  | [d1, d2] => { results := [.lit (.bool true)], args := [d1, d2] }
  | _ => none }
def fnBlockMergeUnstrippedEndsAtMergeRow : OpenClaim := { program := "qxb6000678a", sum := "662b40e4eb4596cce8612aeea5e07771e0c6a6cf36c1a07859a33a0de7079235", func := "example.com/chartwright/chartwright/zzlaws_index_yamltext_b1.FnBlockMergeUnstrippedEndsAtMerge", spec := "fnBlockMergeUnstrippedEndsAtMerge", apart := false }
def FnBlockMergeUnstrippedEndsAtMergeSaid : Prop := fnBlockMergeUnstrippedEndsAtMergeRow.holds Try.pinned (OpenSpec.ofChange fnBlockMergeUnstrippedEndsAtMergeSpec)

/-- ITS FALSE NEIGHBOUR: 'it returns false'. Refute it at one input. -/
def fnBlockMergeUnstrippedEndsAtMergeWrong : ChangeSpec := { name := "fnBlockMergeUnstrippedEndsAtMerge", fn := fun _ => fun
  | [d1, d2] => { results := [.lit (.bool false)], args := [d1, d2] }
  | _ => none }
def FnBlockMergeUnstrippedEndsAtMergeWrongFalsely : Prop := fnBlockMergeUnstrippedEndsAtMergeRow.holds Try.pinned (OpenSpec.ofChange fnBlockMergeUnstrippedEndsAtMergeWrong)

end Rows
end Go.Proofs.Qxb6000678a
