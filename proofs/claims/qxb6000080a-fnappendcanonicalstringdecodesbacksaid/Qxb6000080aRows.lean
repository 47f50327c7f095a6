/-
  No cell of these rows narrows 'for every input' (looked for: loops, veiled, ifaces, maps, wideKeys, modest, calm, conditions, laid).
  DERIVED. THE GIVEN ROWS OF THIS SEAT. 5 by the template 'for every input the law returns true; each argument reads behind the call as it read before'; 0 by the template 'total and deterministic' (their statements: Qxb6000080aTotals.lean).
  GIVEN WITH THE SEED: the statements are not yours to turn. If you find one false, say at which input.
  Laid BY PROGRAM, IN A SANDBOX (cutbox-rows.mjs): the forced cells as the released guide's own fill.sh prints them over the translation b49c52f1c50f0444… (all of the seat's roots in one cut). By AI agents, Wed Nov 11 2026. No macro, syntax, notation, axiom, sorry.
-/
import Derived.Test.Qxb6000080aChecked
import GoSem.Claim
import GoSem.ClaimJoined
import GoSem.ClaimMapViews
import Derived.JoinedTies
import Derived.KernelRfl
namespace Go.Proofs.Qxb6000080a
/- THE CELL 'sum', in the pinned program and in every row, IS THE sha256 OF THE DUMP (.gsa) THAT Qxb6000080aProg.lean LOADS. Nothing in Lean hashes anything: it is a label: what it is worth is what the hold of that sum in a sandbox is worth. -/
noncomputable def Try.pinned : Pinned := { name := "qxb6000080a", sum := "b49c52f1c50f04443e6179af13c7ed278ff804ceca22587179e6a3a4f90a8434", checked := Try.checked }
namespace Rows
def none {H : Type} : Left H := { results := [], args := [] }

/-- 'zzlaws_root_b1.FnAppendCanonicalStringDecodesBack': WHATEVER THE INPUT: true; the input reads as it did. -/
def fnAppendCanonicalStringDecodesBackSpec : ChangeSpec := { name := "fnAppendCanonicalStringDecodesBack", fn := fun _ => fun
  | [d1, d2] => { results := [.lit (.bool true)], args := [d1, d2] }
  | _ => none }
def fnAppendCanonicalStringDecodesBackRow : OpenClaim := { program := "qxb6000080a", sum := "b49c52f1c50f04443e6179af13c7ed278ff804ceca22587179e6a3a4f90a8434", func := "example.com/resolvent/resolvent/zzlaws_root_b1.FnAppendCanonicalStringDecodesBack", spec := "fnAppendCanonicalStringDecodesBack", apart := false }
def FnAppendCanonicalStringDecodesBackSaid : Prop := fnAppendCanonicalStringDecodesBackRow.holds Try.pinned (OpenSpec.ofChange fnAppendCanonicalStringDecodesBackSpec)

/-- ITS FALSE NEIGHBOUR: 'it returns false'. Refute it at one input. -/
def fnAppendCanonicalStringDecodesBackWrong : ChangeSpec := { name := "fnAppendCanonicalStringDecodesBack", fn := fun _ => fun
  | [d1, d2] => { results := [.lit (.bool false)], args := [d1, d2] }
  | _ => none }
def FnAppendCanonicalStringDecodesBackWrongFalsely : Prop := fnAppendCanonicalStringDecodesBackRow.holds Try.pinned (OpenSpec.ofChange fnAppendCanonicalStringDecodesBackWrong)

/-- 'zzlaws_root_b1.FnAppendCanonicalStringSplitsOverConcatenation': WHATEVER THE INPUT: true; the input reads as it did. -/
def fnAppendCanonicalStringSplitsOverConcatenationSpec : ChangeSpec := { name := "fnAppendCanonicalStringSplitsOverConcatenation", fn := fun _ => fun
  | [d1, d2, d3] => { results := [.lit (.bool true)], args := [d1, d2, d3] }
  | _ => none }
def fnAppendCanonicalStringSplitsOverConcatenationRow : OpenClaim := { program := "qxb6000080a", sum := "b49c52f1c50f04443e6179af13c7ed278ff804ceca22587179e6a3a4f90a8434", func := "example.com/resolvent/resolvent/zzlaws_root_b1.FnAppendCanonicalStringSplitsOverConcatenation", spec := "fnAppendCanonicalStringSplitsOverConcatenation", apart := false }
def FnAppendCanonicalStringSplitsOverConcatenationSaid : Prop := fnAppendCanonicalStringSplitsOverConcatenationRow.holds Try.pinned (OpenSpec.ofChange fnAppendCanonicalStringSplitsOverConcatenationSpec)

/-- ITS FALSE NEIGHBOUR: 'it returns false'. Refute it at one input. -/
def fnAppendCanonicalStringSplitsOverConcatenationWrong : ChangeSpec := { name := "fnAppendCanonicalStringSplitsOverConcatenation", fn := fun _ => fun
  | [d1, d2, d3] => { results := [.lit (.bool false)], args := [d1, d2, d3] }
  | _ => none }
def FnAppendCanonicalStringSplitsOverConcatenationWrongFalsely : Prop := fnAppendCanonicalStringSplitsOverConcatenationRow.holds Try.pinned (OpenSpec.ofChange fnAppendCanonicalStringSplitsOverConcatenationWrong)

/-- 'zzlaws_root_b1.FnHex4MatchesPositionalModel': WHATEVER THE INPUT: true; the input reads as it did. -/
def fnHex4MatchesPositionalModelSpec : ChangeSpec := { name := "fnHex4MatchesPositionalModel", fn := fun _ => fun
  | [d] => { results := [.lit (.bool true)], args := [d] }
  | _ => none }
def fnHex4MatchesPositionalModelRow : OpenClaim := { program := "qxb6000080a", sum := "b49c52f1c50f04443e6179af13c7ed278ff804ceca22587179e6a3a4f90a8434", func := "example.com/resolvent/resolvent/zzlaws_root_b1.FnHex4MatchesPositionalModel", spec := "fnHex4MatchesPositionalModel", apart := false }
def FnHex4MatchesPositionalModelSaid : Prop := fnHex4MatchesPositionalModelRow.holds Try.pinned (OpenSpec.ofChange fnHex4MatchesPositionalModelSpec)

/-- ITS FALSE NEIGHBOUR: 'it returns false'. Refute it at one input. -/
def fnHex4MatchesPositionalModelWrong : ChangeSpec := { name := "fnHex4MatchesPositionalModel", fn := fun _ => fun
  | [d] => { results := [.lit (.bool false)], args := [d] }
  | _ => none }
def FnHex4MatchesPositionalModelWrongFalsely : Prop := fnHex4MatchesPositionalModelRow.holds Try.pinned (OpenSpec.ofChange fnHex4MatchesPositionalModelWrong)

/-- 'zzlaws_root_b1.FnHex4ReadsBackFourDigits': WHATEVER THE INPUT: true; the input reads as it did. -/
def fnHex4ReadsBackFourDigitsSpec : ChangeSpec := { name := "fnHex4ReadsBackFourDigits", fn := fun _ => fun
  | [d1, d2, d3] => { results := [.lit (.bool true)], args := [d1, d2, d3] }
  | _ => none }
def fnHex4ReadsBackFourDigitsRow : OpenClaim := { program := "qxb6000080a", sum := "b49c52f1c50f04443e6179af13c7ed278ff804ceca22587179e6a3a4f90a8434", func := "example.com/resolvent/resolvent/zzlaws_root_b1.FnHex4ReadsBackFourDigits", spec := "fnHex4ReadsBackFourDigits", apart := false }
def FnHex4ReadsBackFourDigitsSaid : Prop := fnHex4ReadsBackFourDigitsRow.holds Try.pinned (OpenSpec.ofChange fnHex4ReadsBackFourDigitsSpec)

/-- ITS FALSE NEIGHBOUR: 'it returns false'. Refute it at one input. -/
def fnHex4ReadsBackFourDigitsWrong : ChangeSpec := { name := "fnHex4ReadsBackFourDigits", fn := fun _ => fun
  | [d1, d2, d3] => { results := [.lit (.bool false)], args := [d1, d2, d3] }
  | _ => none }
def FnHex4ReadsBackFourDigitsWrongFalsely : Prop := fnHex4ReadsBackFourDigitsRow.holds Try.pinned (OpenSpec.ofChange fnHex4ReadsBackFourDigitsWrong)

/-- 'zzlaws_root_b1.FnKnowsJoinRuleMonotoneInFeatures': WHATEVER THE INPUT: true; the input reads as it did. -/
def fnKnowsJoinRuleMonotoneInFeaturesSpec : ChangeSpec := { name := "fnKnowsJoinRuleMonotoneInFeatures", fn := fun _ => fun
  | [d1, d2, d3, d4, d5, d6, d7, d8] => { results := [.lit (.bool true)], args := [d1, d2, d3, d4, d5, d6, d7, d8] }
  | _ => none }
def fnKnowsJoinRuleMonotoneInFeaturesRow : OpenClaim := { program := "qxb6000080a", sum := "b49c52f1c50f04443e6179af13c7ed278ff804ceca22587179e6a3a4f90a8434", func := "example.com/resolvent/resolvent/zzlaws_root_b1.FnKnowsJoinRuleMonotoneInFeatures", spec := "fnKnowsJoinRuleMonotoneInFeatures", apart := false }
def FnKnowsJoinRuleMonotoneInFeaturesSaid : Prop := fnKnowsJoinRuleMonotoneInFeaturesRow.holds Try.pinned (OpenSpec.ofChange fnKnowsJoinRuleMonotoneInFeaturesSpec)

/-- ITS FALSE NEIGHBOUR: 'it returns false'. Refute it at one input. -/
def fnKnowsJoinRuleMonotoneInFeaturesWrong : ChangeSpec := { name := "fnKnowsJoinRuleMonotoneInFeatures", fn := fun _ => fun
  | [d1, d2, d3, d4, d5, d6, d7, d8] => { results := [.lit (.bool false)], args := [d1, d2, d3, d4, d5, d6, d7, d8] }
  | _ => none }
def FnKnowsJoinRuleMonotoneInFeaturesWrongFalsely : Prop := fnKnowsJoinRuleMonotoneInFeaturesRow.holds Try.pinned (OpenSpec.ofChange fnKnowsJoinRuleMonotoneInFeaturesWrong)

end Rows
end Go.Proofs.Qxb6000080a
