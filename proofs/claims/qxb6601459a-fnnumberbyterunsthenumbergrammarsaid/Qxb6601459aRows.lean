/-
  No cell of these rows narrows 'for every input' (looked for: loops, veiled, ifaces, maps, wideKeys, modest, calm, conditions, laid).
  DERIVED. THE GIVEN ROWS OF THIS SEAT. 5 by the template 'for every input the law returns true; each argument reads behind the call as it read before'; 0 by the template 'total and deterministic' (their statements: Qxb6601459aTotals.lean).
  GIVEN WITH THE SEED: the statements are not yours to turn. If you find one false, say at which input.
  Laid BY PROGRAM, IN A SANDBOX (cutbox-rows.mjs): the forced cells as the released guide's own fill.sh prints them over the translation a39a7455db818296… (all of the seat's roots in one cut). By AI agents, Wed Nov 11 2026. No macro, syntax, notation, axiom, sorry.
-/
import Derived.Test.Qxb6601459aChecked
import GoSem.Claim
import GoSem.ClaimJoined
import GoSem.ClaimMapViews
import Derived.JoinedTies
import Derived.KernelRfl
namespace Go.Proofs.Qxb6601459a
/- THE CELL 'sum', in the pinned program and in every row, IS THE sha256 OF THE DUMP (.gsa) THAT Qxb6601459aProg.lean LOADS. Nothing in Lean hashes anything: it is a label: what it is worth is what the hold of that sum in a sandbox is worth. -/
noncomputable def Try.pinned : Pinned := { name := "qxb6601459a", sum := "a39a7455db8182962a2d536cdf01328d78fc8ff5494e42e5ad57936fac1d6372", checked := Try.checked }
namespace Rows
def none {H : Type} : Left H := { results := [], args := [] }

/-- 'zzlaws_internal_jsonline_b1.FnStringEndIsFirstUnescapedQuote': WHATEVER THE INPUT: true; the input reads as it did. -/
def fnStringEndIsFirstUnescapedQuoteSpec : ChangeSpec := { name := "fnStringEndIsFirstUnescapedQuote", fn := fun _ => fun
  | [d1, d2] => { results := [.lit (.bool true)], args := [d1, d2] }
  | _ => none }
def fnStringEndIsFirstUnescapedQuoteRow : OpenClaim := { program := "qxb6601459a", sum := "a39a7455db8182962a2d536cdf01328d78fc8ff5494e42e5ad57936fac1d6372", func := "example.com/planwright/planwright/zzlaws_internal_jsonline_b1.FnStringEndIsFirstUnescapedQuote", spec := "fnStringEndIsFirstUnescapedQuote", inPlace := ["internal/bytealg.IndexByte"], apart := false }
def FnStringEndIsFirstUnescapedQuoteSaid : Prop := fnStringEndIsFirstUnescapedQuoteRow.holds Try.pinned (OpenSpec.ofChange fnStringEndIsFirstUnescapedQuoteSpec)

/-- ITS FALSE NEIGHBOUR: 'it returns false'. Refute it at one input. -/
def fnStringEndIsFirstUnescapedQuoteWrong : ChangeSpec := { name := "fnStringEndIsFirstUnescapedQuote", fn := fun _ => fun
  | [d1, d2] => { results := [.lit (.bool false)], args := [d1, d2] }
  | _ => none }
def FnStringEndIsFirstUnescapedQuoteWrongFalsely : Prop := fnStringEndIsFirstUnescapedQuoteRow.holds Try.pinned (OpenSpec.ofChange fnStringEndIsFirstUnescapedQuoteWrong)

/-- 'zzlaws_internal_jsonline_b1.FnStringEndUnmovedByBytesAround': WHATEVER THE INPUT: true; the input reads as it did. -/
def fnStringEndUnmovedByBytesAroundSpec : ChangeSpec := { name := "fnStringEndUnmovedByBytesAround", fn := fun _ => fun
  | [d1, d2, d3, d4] => { results := [.lit (.bool true)], args := [d1, d2, d3, d4] }
  | _ => none }
def fnStringEndUnmovedByBytesAroundRow : OpenClaim := { program := "qxb6601459a", sum := "a39a7455db8182962a2d536cdf01328d78fc8ff5494e42e5ad57936fac1d6372", func := "example.com/planwright/planwright/zzlaws_internal_jsonline_b1.FnStringEndUnmovedByBytesAround", spec := "fnStringEndUnmovedByBytesAround", inPlace := ["internal/bytealg.IndexByte"], apart := false }
def FnStringEndUnmovedByBytesAroundSaid : Prop := fnStringEndUnmovedByBytesAroundRow.holds Try.pinned (OpenSpec.ofChange fnStringEndUnmovedByBytesAroundSpec)

/-- ITS FALSE NEIGHBOUR: 'it returns false'. Refute it at one input. -/
def fnStringEndUnmovedByBytesAroundWrong : ChangeSpec := { name := "fnStringEndUnmovedByBytesAround", fn := fun _ => fun
  | [d1, d2, d3, d4] => { results := [.lit (.bool false)], args := [d1, d2, d3, d4] }
  | _ => none }
def FnStringEndUnmovedByBytesAroundWrongFalsely : Prop := fnStringEndUnmovedByBytesAroundRow.holds Try.pinned (OpenSpec.ofChange fnStringEndUnmovedByBytesAroundWrong)

/-- 'zzlaws_internal_jsonline_b1.FnValueEndMatchesOnePassModel': WHATEVER THE INPUT: true; the input reads as it did. -/
def fnValueEndMatchesOnePassModelSpec : ChangeSpec := { name := "fnValueEndMatchesOnePassModel", fn := fun _ => fun
  | [d1, d2] => { results := [.lit (.bool true)], args := [d1, d2] }
  | _ => none }
def fnValueEndMatchesOnePassModelRow : OpenClaim := { program := "qxb6601459a", sum := "a39a7455db8182962a2d536cdf01328d78fc8ff5494e42e5ad57936fac1d6372", func := "example.com/planwright/planwright/zzlaws_internal_jsonline_b1.FnValueEndMatchesOnePassModel", spec := "fnValueEndMatchesOnePassModel", inPlace := ["internal/bytealg.IndexByte"], apart := false }
def FnValueEndMatchesOnePassModelSaid : Prop := fnValueEndMatchesOnePassModelRow.holds Try.pinned (OpenSpec.ofChange fnValueEndMatchesOnePassModelSpec)

/-- ITS FALSE NEIGHBOUR: 'it returns false'. Refute it at one input. -/
def fnValueEndMatchesOnePassModelWrong : ChangeSpec := { name := "fnValueEndMatchesOnePassModel", fn := fun _ => fun
  | [d1, d2] => { results := [.lit (.bool false)], args := [d1, d2] }
  | _ => none }
def FnValueEndMatchesOnePassModelWrongFalsely : Prop := fnValueEndMatchesOnePassModelRow.holds Try.pinned (OpenSpec.ofChange fnValueEndMatchesOnePassModelWrong)

/-- 'zzlaws_internal_jsonline_b1.FnValueEndUnmovedByBytesAround': WHATEVER THE INPUT: true; the input reads as it did. -/
def fnValueEndUnmovedByBytesAroundSpec : ChangeSpec := { name := "fnValueEndUnmovedByBytesAround", fn := fun _ => fun
  | [d1, d2, d3, d4] => { results := [.lit (.bool true)], args := [d1, d2, d3, d4] }
  | _ => none }
def fnValueEndUnmovedByBytesAroundRow : OpenClaim := { program := "qxb6601459a", sum := "a39a7455db8182962a2d536cdf01328d78fc8ff5494e42e5ad57936fac1d6372", func := "example.com/planwright/planwright/zzlaws_internal_jsonline_b1.FnValueEndUnmovedByBytesAround", spec := "fnValueEndUnmovedByBytesAround", inPlace := ["internal/bytealg.IndexByte"], apart := false }
def FnValueEndUnmovedByBytesAroundSaid : Prop := fnValueEndUnmovedByBytesAroundRow.holds Try.pinned (OpenSpec.ofChange fnValueEndUnmovedByBytesAroundSpec)

/-- ITS FALSE NEIGHBOUR: 'it returns false'. Refute it at one input. -/
def fnValueEndUnmovedByBytesAroundWrong : ChangeSpec := { name := "fnValueEndUnmovedByBytesAround", fn := fun _ => fun
  | [d1, d2, d3, d4] => { results := [.lit (.bool false)], args := [d1, d2, d3, d4] }
  | _ => none }
def FnValueEndUnmovedByBytesAroundWrongFalsely : Prop := fnValueEndUnmovedByBytesAroundRow.holds Try.pinned (OpenSpec.ofChange fnValueEndUnmovedByBytesAroundWrong)

/-- 'zzlaws_internal_jsonline_b1.FnNumberByteRunsTheNumberGrammar': WHATEVER THE INPUT: true; the input reads as it did. -/
def fnNumberByteRunsTheNumberGrammarSpec : ChangeSpec := { name := "fnNumberByteRunsTheNumberGrammar", fn := fun _ => fun
  | [d] => { results := [.lit (.bool true)], args := [d] }
  | _ => none }
def fnNumberByteRunsTheNumberGrammarRow : OpenClaim := { program := "qxb6601459a", sum := "a39a7455db8182962a2d536cdf01328d78fc8ff5494e42e5ad57936fac1d6372", func := "example.com/planwright/planwright/zzlaws_internal_jsonline_b1.FnNumberByteRunsTheNumberGrammar", spec := "fnNumberByteRunsTheNumberGrammar", apart := false }
def FnNumberByteRunsTheNumberGrammarSaid : Prop := fnNumberByteRunsTheNumberGrammarRow.holds Try.pinned (OpenSpec.ofChange fnNumberByteRunsTheNumberGrammarSpec)

/-- ITS FALSE NEIGHBOUR: 'it returns false'. Refute it at one input. -/
def fnNumberByteRunsTheNumberGrammarWrong : ChangeSpec := { name := "fnNumberByteRunsTheNumberGrammar", fn := fun _ => fun
  | [d] => { results := [.lit (.bool false)], args := [d] }
  | _ => none }
def FnNumberByteRunsTheNumberGrammarWrongFalsely : Prop := fnNumberByteRunsTheNumberGrammarRow.holds Try.pinned (OpenSpec.ofChange fnNumberByteRunsTheNumberGrammarWrong)

end Rows
end Go.Proofs.Qxb6601459a
