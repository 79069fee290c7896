/-
  No cell of these rows narrows 'for every input' (looked for: loops, veiled, ifaces, maps, wideKeys, modest, calm, conditions, laid).
  DERIVED. THE GIVEN ROWS OF THIS SEAT. 5 by the template 'for every input the law returns true; each argument reads behind the call as it read before'; 0 by the template 'total and deterministic' (their statements: Qxb6619288aTotals.lean).
  GIVEN WITH THE SEED: the statements are not yours to turn. If you find one false, say at which input.
  Laid BY PROGRAM, IN A SANDBOX (cutbox-rows.mjs): the forced cells as the released guide's own fill.sh prints them over the translation 40a910f23e6e2a7e… (all of the seat's roots in one cut). By AI agents, Wed Nov 11 2026. No macro, syntax, notation, axiom, sorry.
-/
import Derived.Test.Qxb6619288aChecked
import GoSem.Claim
import GoSem.ClaimJoined
import GoSem.ClaimMapViews
import Derived.JoinedTies
import Derived.KernelRfl
namespace Go.Proofs.Qxb6619288a
/- THE CELL 'sum', in the pinned program and in every row, IS THE sha256 OF THE DUMP (.gsa) THAT Qxb6619288aProg.lean LOADS. Nothing in Lean hashes anything: it is a label: what it is worth is what the hold of that sum in a sandbox is worth. -/
noncomputable def Try.pinned : Pinned := { name := "qxb6619288a", sum := "40a910f23e6e2a7e5170afe6487737fd15a4f0f9761797d0634f1e5d9e67d10b", checked := Try.checked }
namespace Rows
def none {H : Type} : Left H := { results := [], args := [] }

/-- 'zzlaws_pkg_ignore_b1.FnTrimTrailingSpacesLeastCut': WHATEVER THE INPUT: true; the input reads as it did. -/
def fnTrimTrailingSpacesLeastCutSpec : ChangeSpec := { name := "fnTrimTrailingSpacesLeastCut", fn := fun _ => fun
  | [d] => { results := [.lit (.bool true)], args := [d] }
  | _ => none }
def fnTrimTrailingSpacesLeastCutRow : OpenClaim := { program := "qxb6619288a", sum := "40a910f23e6e2a7e5170afe6487737fd15a4f0f9761797d0634f1e5d9e67d10b", func := "example.com/cairn/cairn/zzlaws_pkg_ignore_b1.FnTrimTrailingSpacesLeastCut", spec := "fnTrimTrailingSpacesLeastCut", apart := false }
def FnTrimTrailingSpacesLeastCutSaid : Prop := fnTrimTrailingSpacesLeastCutRow.holds Try.pinned (OpenSpec.ofChange fnTrimTrailingSpacesLeastCutSpec)

/-- ITS FALSE NEIGHBOUR: 'it returns false'. Refute it at one input. -/
def fnTrimTrailingSpacesLeastCutWrong : ChangeSpec := { name := "fnTrimTrailingSpacesLeastCut", fn := fun _ => fun
  | [d] => { results := [.lit (.bool false)], args := [d] }
  | _ => none }
def FnTrimTrailingSpacesLeastCutWrongFalsely : Prop := fnTrimTrailingSpacesLeastCutRow.holds Try.pinned (OpenSpec.ofChange fnTrimTrailingSpacesLeastCutWrong)

/-- 'zzlaws_pkg_ignore_b1.FnTrimTrailingSpacesPadding': WHATEVER THE INPUT: true; the input reads as it did. -/
def fnTrimTrailingSpacesPaddingSpec : ChangeSpec := { name := "fnTrimTrailingSpacesPadding", fn := fun _ => fun
  | [d1, d2] => { results := [.lit (.bool true)], args := [d1, d2] }
  | _ => none }
def fnTrimTrailingSpacesPaddingRow : OpenClaim := { program := "qxb6619288a", sum := "40a910f23e6e2a7e5170afe6487737fd15a4f0f9761797d0634f1e5d9e67d10b", func := "example.com/cairn/cairn/zzlaws_pkg_ignore_b1.FnTrimTrailingSpacesPadding", spec := "fnTrimTrailingSpacesPadding", apart := false }
def FnTrimTrailingSpacesPaddingSaid : Prop := fnTrimTrailingSpacesPaddingRow.holds Try.pinned (OpenSpec.ofChange fnTrimTrailingSpacesPaddingSpec)

/-- ITS FALSE NEIGHBOUR: 'it returns false'. Refute it at one input. -/
def fnTrimTrailingSpacesPaddingWrong : ChangeSpec := { name := "fnTrimTrailingSpacesPadding", fn := fun _ => fun
  | [d1, d2] => { results := [.lit (.bool false)], args := [d1, d2] }
  | _ => none }
def FnTrimTrailingSpacesPaddingWrongFalsely : Prop := fnTrimTrailingSpacesPaddingRow.holds Try.pinned (OpenSpec.ofChange fnTrimTrailingSpacesPaddingWrong)

/-- 'zzlaws_pkg_ignore_b1.FnMatchesGlobModel': WHATEVER THE INPUT: true; the input reads as it did. -/
def fnMatchesGlobModelSpec : ChangeSpec := { name := "fnMatchesGlobModel", fn := fun _ => fun
  | [d1, d2, d3, d4, d5] => { results := [.lit (.bool true)], args := [d1, d2, d3, d4, d5] }
  | _ => none }
def fnMatchesGlobModelRow : OpenClaim := { program := "qxb6619288a", sum := "40a910f23e6e2a7e5170afe6487737fd15a4f0f9761797d0634f1e5d9e67d10b", func := "example.com/cairn/cairn/zzlaws_pkg_ignore_b1.FnMatchesGlobModel", spec := "fnMatchesGlobModel", apart := false }
def FnMatchesGlobModelSaid : Prop := fnMatchesGlobModelRow.holds Try.pinned (OpenSpec.ofChange fnMatchesGlobModelSpec)

/-- ITS FALSE NEIGHBOUR: 'it returns false'. Refute it at one input. -/
def fnMatchesGlobModelWrong : ChangeSpec := { name := "fnMatchesGlobModel", fn := fun _ => fun
  | [d1, d2, d3, d4, d5] => { results := [.lit (.bool false)], args := [d1, d2, d3, d4, d5] }
  | _ => none }
def FnMatchesGlobModelWrongFalsely : Prop := fnMatchesGlobModelRow.holds Try.pinned (OpenSpec.ofChange fnMatchesGlobModelWrong)

/-- 'zzlaws_pkg_ignore_b1.FnMatchesUnanchoredAtAnyDepth': WHATEVER THE INPUT: true; the input reads as it did. -/
def fnMatchesUnanchoredAtAnyDepthSpec : ChangeSpec := { name := "fnMatchesUnanchoredAtAnyDepth", fn := fun _ => fun
  | [d1, d2, d3, d4, d5, d6] => { results := [.lit (.bool true)], args := [d1, d2, d3, d4, d5, d6] }
  | _ => none }
def fnMatchesUnanchoredAtAnyDepthRow : OpenClaim := { program := "qxb6619288a", sum := "40a910f23e6e2a7e5170afe6487737fd15a4f0f9761797d0634f1e5d9e67d10b", func := "example.com/cairn/cairn/zzlaws_pkg_ignore_b1.FnMatchesUnanchoredAtAnyDepth", spec := "fnMatchesUnanchoredAtAnyDepth", apart := false }
def FnMatchesUnanchoredAtAnyDepthSaid : Prop := fnMatchesUnanchoredAtAnyDepthRow.holds Try.pinned (OpenSpec.ofChange fnMatchesUnanchoredAtAnyDepthSpec)

/-- ITS FALSE NEIGHBOUR: 'it returns false'. Refute it at one input. -/
def fnMatchesUnanchoredAtAnyDepthWrong : ChangeSpec := { name := "fnMatchesUnanchoredAtAnyDepth", fn := fun _ => fun
  | [d1, d2, d3, d4, d5, d6] => { results := [.lit (.bool false)], args := [d1, d2, d3, d4, d5, d6] }
  | _ => none }
def FnMatchesUnanchoredAtAnyDepthWrongFalsely : Prop := fnMatchesUnanchoredAtAnyDepthRow.holds Try.pinned (OpenSpec.ofChange fnMatchesUnanchoredAtAnyDepthWrong)

/-- 'zzlaws_pkg_ignore_b1.FnDecideLastMatchingPatternDecides': WHATEVER THE INPUT: true; the input reads as it did. -/
def fnDecideLastMatchingPatternDecidesSpec : ChangeSpec := { name := "fnDecideLastMatchingPatternDecides", fn := fun _ => fun
  | [d1, d2, d3, d4, d5, d6] => { results := [.lit (.bool true)], args := [d1, d2, d3, d4, d5, d6] }
  | _ => none }
def fnDecideLastMatchingPatternDecidesRow : OpenClaim := { program := "qxb6619288a", sum := "40a910f23e6e2a7e5170afe6487737fd15a4f0f9761797d0634f1e5d9e67d10b", func := "example.com/cairn/cairn/zzlaws_pkg_ignore_b1.FnDecideLastMatchingPatternDecides", spec := "fnDecideLastMatchingPatternDecides", apart := false }
def FnDecideLastMatchingPatternDecidesSaid : Prop := fnDecideLastMatchingPatternDecidesRow.holds Try.pinned (OpenSpec.ofChange fnDecideLastMatchingPatternDecidesSpec)

/-- ITS FALSE NEIGHBOUR: 'it returns false'. Refute it at one input. -/
def fnDecideLastMatchingPatternDecidesWrong : ChangeSpec := { name := "fnDecideLastMatchingPatternDecides", fn := fun _ => fun
  | [d1, d2, d3, d4, d5, d6] => { results := [.lit (.bool false)], args := [d1, d2, d3, d4, d5, d6] }
  | _ => none }
def FnDecideLastMatchingPatternDecidesWrongFalsely : Prop := fnDecideLastMatchingPatternDecidesRow.holds Try.pinned (OpenSpec.ofChange fnDecideLastMatchingPatternDecidesWrong)

end Rows
end Go.Proofs.Qxb6619288a
