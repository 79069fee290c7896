/-
  No cell of these rows narrows 'for every input' (looked for: loops, veiled, ifaces, maps, wideKeys, modest, calm, conditions, laid).
  DERIVED. THE GIVEN ROWS OF THIS SEAT. 6 by the template 'for every input the law returns true; each argument reads behind the call as it read before'; 0 by the template 'total and deterministic' (their statements: Qxb6619197aTotals.lean).
  GIVEN WITH THE SEED: the statements are not yours to turn. If you find one false, say at which input.
  Laid BY PROGRAM, IN A SANDBOX (cutbox-rows.mjs): the forced cells as the released guide's own fill.sh prints them over the translation 8eda97a8f666cbd4… (all of the seat's roots in one cut). By AI agents, Wed Nov 11 2026. No macro, syntax, notation, axiom, sorry.
-/
import Derived.Test.Qxb6619197aChecked
import GoSem.Claim
import GoSem.ClaimJoined
import GoSem.ClaimMapViews
import Derived.JoinedTies
import Derived.KernelRfl
namespace Go.Proofs.Qxb6619197a
/- THE CELL 'sum', in the pinned program and in every row, IS THE sha256 OF THE DUMP (.gsa) THAT Qxb6619197aProg.lean LOADS. Nothing in Lean hashes anything: it is a label: what it is worth is what the hold of that sum in a sandbox is worth. -/
noncomputable def Try.pinned : Pinned := { name := "qxb6619197a", sum := "8eda97a8f666cbd42b5f220e79f8cbe5594f419120114ac67b066313f7b0d227", checked := Try.checked }
namespace Rows
def none {H : Type} : Left H := { results := [], args := [] }

/-- 'zzlaws_pkg_strictjson_b1.FnSkipSpaceIsFirstNonBlank': WHATEVER THE INPUT: true; the input reads as it did. -/
def fnSkipSpaceIsFirstNonBlankSpec : ChangeSpec := { name := "fnSkipSpaceIsFirstNonBlank", fn := fun _ => fun
  | [d1, d2, d3] => { results := [.lit (.bool true)], args := [d1, d2, d3] }
  | _ => none }
def fnSkipSpaceIsFirstNonBlankRow : OpenClaim := { program := "qxb6619197a", sum := "8eda97a8f666cbd42b5f220e79f8cbe5594f419120114ac67b066313f7b0d227", func := "example.com/buildwire/buildwire/zzlaws_pkg_strictjson_b1.FnSkipSpaceIsFirstNonBlank", spec := "fnSkipSpaceIsFirstNonBlank", apart := false }
def FnSkipSpaceIsFirstNonBlankSaid : Prop := fnSkipSpaceIsFirstNonBlankRow.holds Try.pinned (OpenSpec.ofChange fnSkipSpaceIsFirstNonBlankSpec)

/-- ITS FALSE NEIGHBOUR: 'it returns false'. Refute it at one input. -/
def fnSkipSpaceIsFirstNonBlankWrong : ChangeSpec := { name := "fnSkipSpaceIsFirstNonBlank", fn := fun _ => fun
  | [d1, d2, d3] => { results := [.lit (.bool false)], args := [d1, d2, d3] }
  | _ => none }
def FnSkipSpaceIsFirstNonBlankWrongFalsely : Prop := fnSkipSpaceIsFirstNonBlankRow.holds Try.pinned (OpenSpec.ofChange fnSkipSpaceIsFirstNonBlankWrong)

/-- 'zzlaws_pkg_strictjson_b1.FnSkipSpaceOverBlankPrefix': WHATEVER THE INPUT: true; the input reads as it did. -/
def fnSkipSpaceOverBlankPrefixSpec : ChangeSpec := { name := "fnSkipSpaceOverBlankPrefix", fn := fun _ => fun
  | [d1, d2, d3] => { results := [.lit (.bool true)], args := [d1, d2, d3] }
  | _ => none }
def fnSkipSpaceOverBlankPrefixRow : OpenClaim := { program := "qxb6619197a", sum := "8eda97a8f666cbd42b5f220e79f8cbe5594f419120114ac67b066313f7b0d227", func := "example.com/buildwire/buildwire/zzlaws_pkg_strictjson_b1.FnSkipSpaceOverBlankPrefix", spec := "fnSkipSpaceOverBlankPrefix", apart := false }
def FnSkipSpaceOverBlankPrefixSaid : Prop := fnSkipSpaceOverBlankPrefixRow.holds Try.pinned (OpenSpec.ofChange fnSkipSpaceOverBlankPrefixSpec)

/-- ITS FALSE NEIGHBOUR: 'it returns false'. Refute it at one input. -/
def fnSkipSpaceOverBlankPrefixWrong : ChangeSpec := { name := "fnSkipSpaceOverBlankPrefix", fn := fun _ => fun
  | [d1, d2, d3] => { results := [.lit (.bool false)], args := [d1, d2, d3] }
  | _ => none }
def FnSkipSpaceOverBlankPrefixWrongFalsely : Prop := fnSkipSpaceOverBlankPrefixRow.holds Try.pinned (OpenSpec.ofChange fnSkipSpaceOverBlankPrefixWrong)

/-- 'zzlaws_pkg_strictjson_b1.FnStringEndMatchesBackslashRuns': WHATEVER THE INPUT: true; the input reads as it did. -/
def fnStringEndMatchesBackslashRunsSpec : ChangeSpec := { name := "fnStringEndMatchesBackslashRuns", fn := fun _ => fun
  | [d1, d2, d3] => { results := [.lit (.bool true)], args := [d1, d2, d3] }
  | _ => none }
def fnStringEndMatchesBackslashRunsRow : OpenClaim := { program := "qxb6619197a", sum := "8eda97a8f666cbd42b5f220e79f8cbe5594f419120114ac67b066313f7b0d227", func := "example.com/buildwire/buildwire/zzlaws_pkg_strictjson_b1.FnStringEndMatchesBackslashRuns", spec := "fnStringEndMatchesBackslashRuns", apart := false }
def FnStringEndMatchesBackslashRunsSaid : Prop := fnStringEndMatchesBackslashRunsRow.holds Try.pinned (OpenSpec.ofChange fnStringEndMatchesBackslashRunsSpec)

/-- ITS FALSE NEIGHBOUR: 'it returns false'. Refute it at one input. -/
def fnStringEndMatchesBackslashRunsWrong : ChangeSpec := { name := "fnStringEndMatchesBackslashRuns", fn := fun _ => fun
  | [d1, d2, d3] => { results := [.lit (.bool false)], args := [d1, d2, d3] }
  | _ => none }
def FnStringEndMatchesBackslashRunsWrongFalsely : Prop := fnStringEndMatchesBackslashRunsRow.holds Try.pinned (OpenSpec.ofChange fnStringEndMatchesBackslashRunsWrong)

/-- 'zzlaws_pkg_strictjson_b1.FnStringEndAtEscapedText': WHATEVER THE INPUT: true; the input reads as it did. -/
def fnStringEndAtEscapedTextSpec : ChangeSpec := { name := "fnStringEndAtEscapedText", fn := fun _ => fun
  | [d1, d2, d3] => { results := [.lit (.bool true)], args := [d1, d2, d3] }
  | _ => none }
def fnStringEndAtEscapedTextRow : OpenClaim := { program := "qxb6619197a", sum := "8eda97a8f666cbd42b5f220e79f8cbe5594f419120114ac67b066313f7b0d227", func := "example.com/buildwire/buildwire/zzlaws_pkg_strictjson_b1.FnStringEndAtEscapedText", spec := "fnStringEndAtEscapedText", apart := false }
def FnStringEndAtEscapedTextSaid : Prop := fnStringEndAtEscapedTextRow.holds Try.pinned (OpenSpec.ofChange fnStringEndAtEscapedTextSpec)

/-- ITS FALSE NEIGHBOUR: 'it returns false'. Refute it at one input. -/
def fnStringEndAtEscapedTextWrong : ChangeSpec := { name := "fnStringEndAtEscapedText", fn := fun _ => fun
  | [d1, d2, d3] => { results := [.lit (.bool false)], args := [d1, d2, d3] }
  | _ => none }
def FnStringEndAtEscapedTextWrongFalsely : Prop := fnStringEndAtEscapedTextRow.holds Try.pinned (OpenSpec.ofChange fnStringEndAtEscapedTextWrong)

/-- 'zzlaws_pkg_strictjson_b1.FnValueEndMatchesAutomaton': WHATEVER THE INPUT: true; the input reads as it did. -/
def fnValueEndMatchesAutomatonSpec : ChangeSpec := { name := "fnValueEndMatchesAutomaton", fn := fun _ => fun
  | [d1, d2] => { results := [.lit (.bool true)], args := [d1, d2] }
  | _ => none }
def fnValueEndMatchesAutomatonRow : OpenClaim := { program := "qxb6619197a", sum := "8eda97a8f666cbd42b5f220e79f8cbe5594f419120114ac67b066313f7b0d227", func := "example.com/buildwire/buildwire/zzlaws_pkg_strictjson_b1.FnValueEndMatchesAutomaton", spec := "fnValueEndMatchesAutomaton", apart := false }
def FnValueEndMatchesAutomatonSaid : Prop := fnValueEndMatchesAutomatonRow.holds Try.pinned (OpenSpec.ofChange fnValueEndMatchesAutomatonSpec)

/-- ITS FALSE NEIGHBOUR: 'it returns false'. Refute it at one input. -/
def fnValueEndMatchesAutomatonWrong : ChangeSpec := { name := "fnValueEndMatchesAutomaton", fn := fun _ => fun
  | [d1, d2] => { results := [.lit (.bool false)], args := [d1, d2] }
  | _ => none }
def FnValueEndMatchesAutomatonWrongFalsely : Prop := fnValueEndMatchesAutomatonRow.holds Try.pinned (OpenSpec.ofChange fnValueEndMatchesAutomatonWrong)

/-- 'zzlaws_pkg_strictjson_b1.FnValueEndAtWrittenValue': WHATEVER THE INPUT: true; the input reads as it did. -/
def fnValueEndAtWrittenValueSpec : ChangeSpec := { name := "fnValueEndAtWrittenValue", fn := fun _ => fun
  | [d1, d2, d3, d4] => { results := [.lit (.bool true)], args := [d1, d2, d3, d4] }
  | _ => none }
def fnValueEndAtWrittenValueRow : OpenClaim := { program := "qxb6619197a", sum := "8eda97a8f666cbd42b5f220e79f8cbe5594f419120114ac67b066313f7b0d227", func := "example.com/buildwire/buildwire/zzlaws_pkg_strictjson_b1.FnValueEndAtWrittenValue", spec := "fnValueEndAtWrittenValue", apart := false }
def FnValueEndAtWrittenValueSaid : Prop := fnValueEndAtWrittenValueRow.holds Try.pinned (OpenSpec.ofChange fnValueEndAtWrittenValueSpec)

/-- ITS FALSE NEIGHBOUR: 'it returns false'. Refute it at one input. -/
def fnValueEndAtWrittenValueWrong : ChangeSpec := { name := "fnValueEndAtWrittenValue", fn := fun _ => fun
  | [d1, d2, d3, d4] => { results := [.lit (.bool false)], args := [d1, d2, d3, d4] }
  | _ => none }
def FnValueEndAtWrittenValueWrongFalsely : Prop := fnValueEndAtWrittenValueRow.holds Try.pinned (OpenSpec.ofChange fnValueEndAtWrittenValueWrong)

end Rows
end Go.Proofs.Qxb6619197a
