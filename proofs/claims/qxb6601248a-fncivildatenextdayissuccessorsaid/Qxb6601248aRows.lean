/-
  No cell of these rows narrows 'for every input' (looked for: loops, veiled, ifaces, maps, wideKeys, modest, calm, conditions, laid).
  DERIVED. THE GIVEN ROWS OF THIS SEAT. 6 by the template 'for every input the law returns true; each argument reads behind the call as it read before'; 0 by the template 'total and deterministic' (their statements: Qxb6601248aTotals.lean).
  GIVEN WITH THE SEED: the statements are not yours to turn. If you find one false, say at which input.
  Laid BY PROGRAM, IN A SANDBOX (cutbox-rows.mjs): the forced cells as the released guide's own fill.sh prints them over the translation 0235e29dd6e0a194… (all of the seat's roots in one cut). By AI agents, Wed Nov 11 2026. No macro, syntax, notation, axiom, sorry.
-/
import Derived.Test.Qxb6601248aChecked
import GoSem.Claim
import GoSem.ClaimJoined
import GoSem.ClaimMapViews
import Derived.JoinedTies
import Derived.KernelRfl
namespace Go.Proofs.Qxb6601248a
/- THE CELL 'sum', in the pinned program and in every row, IS THE sha256 OF THE DUMP (.gsa) THAT Qxb6601248aProg.lean LOADS. Nothing in Lean hashes anything: it is a label: what it is worth is what the hold of that sum in a sandbox is worth. -/
noncomputable def Try.pinned : Pinned := { name := "qxb6601248a", sum := "0235e29dd6e0a194801a0271bf82941c75a9c747b4497363e016a0543447e8a1", checked := Try.checked }
namespace Rows
def none {H : Type} : Left H := { results := [], args := [] }

/-- 'zzlaws_root_b1.FnCivilDateMatchesDayCount': WHATEVER THE INPUT: true; the input reads as it did. -/
def fnCivilDateMatchesDayCountSpec : ChangeSpec := { name := "fnCivilDateMatchesDayCount", fn := fun _ => fun
  | [d] => { results := [.lit (.bool true)], args := [d] }
  | _ => none }
def fnCivilDateMatchesDayCountRow : OpenClaim := { program := "qxb6601248a", sum := "0235e29dd6e0a194801a0271bf82941c75a9c747b4497363e016a0543447e8a1", func := "example.com/tackful/tackful/zzlaws_root_b1.FnCivilDateMatchesDayCount", spec := "fnCivilDateMatchesDayCount", apart := false }
def FnCivilDateMatchesDayCountSaid : Prop := fnCivilDateMatchesDayCountRow.holds Try.pinned (OpenSpec.ofChange fnCivilDateMatchesDayCountSpec)

/-- ITS FALSE NEIGHBOUR: 'it returns false'. Refute it at one input. -/
def fnCivilDateMatchesDayCountWrong : ChangeSpec := { name := "fnCivilDateMatchesDayCount", fn := fun _ => fun
  | [d] => { results := [.lit (.bool false)], args := [d] }
  | _ => none }
def FnCivilDateMatchesDayCountWrongFalsely : Prop := fnCivilDateMatchesDayCountRow.holds Try.pinned (OpenSpec.ofChange fnCivilDateMatchesDayCountWrong)

/-- 'zzlaws_root_b1.FnCivilDateInvertsDateToDays': WHATEVER THE INPUT: true; the input reads as it did. -/
def fnCivilDateInvertsDateToDaysSpec : ChangeSpec := { name := "fnCivilDateInvertsDateToDays", fn := fun _ => fun
  | [d1, d2, d3] => { results := [.lit (.bool true)], args := [d1, d2, d3] }
  | _ => none }
def fnCivilDateInvertsDateToDaysRow : OpenClaim := { program := "qxb6601248a", sum := "0235e29dd6e0a194801a0271bf82941c75a9c747b4497363e016a0543447e8a1", func := "example.com/tackful/tackful/zzlaws_root_b1.FnCivilDateInvertsDateToDays", spec := "fnCivilDateInvertsDateToDays", apart := false }
def FnCivilDateInvertsDateToDaysSaid : Prop := fnCivilDateInvertsDateToDaysRow.holds Try.pinned (OpenSpec.ofChange fnCivilDateInvertsDateToDaysSpec)

/-- ITS FALSE NEIGHBOUR: 'it returns false'. Refute it at one input. -/
def fnCivilDateInvertsDateToDaysWrong : ChangeSpec := { name := "fnCivilDateInvertsDateToDays", fn := fun _ => fun
  | [d1, d2, d3] => { results := [.lit (.bool false)], args := [d1, d2, d3] }
  | _ => none }
def FnCivilDateInvertsDateToDaysWrongFalsely : Prop := fnCivilDateInvertsDateToDaysRow.holds Try.pinned (OpenSpec.ofChange fnCivilDateInvertsDateToDaysWrong)

/-- 'zzlaws_root_b1.FnCivilDateNextDayIsSuccessor': WHATEVER THE INPUT: true; the input reads as it did. -/
def fnCivilDateNextDayIsSuccessorSpec : ChangeSpec := { name := "fnCivilDateNextDayIsSuccessor", fn := fun _ => fun
  | [d] => { results := [.lit (.bool true)], args := [d] }
  | _ => none }
def fnCivilDateNextDayIsSuccessorRow : OpenClaim := { program := "qxb6601248a", sum := "0235e29dd6e0a194801a0271bf82941c75a9c747b4497363e016a0543447e8a1", func := "example.com/tackful/tackful/zzlaws_root_b1.FnCivilDateNextDayIsSuccessor", spec := "fnCivilDateNextDayIsSuccessor", apart := false }
def FnCivilDateNextDayIsSuccessorSaid : Prop := fnCivilDateNextDayIsSuccessorRow.holds Try.pinned (OpenSpec.ofChange fnCivilDateNextDayIsSuccessorSpec)

/-- ITS FALSE NEIGHBOUR: 'it returns false'. Refute it at one input. -/
def fnCivilDateNextDayIsSuccessorWrong : ChangeSpec := { name := "fnCivilDateNextDayIsSuccessor", fn := fun _ => fun
  | [d] => { results := [.lit (.bool false)], args := [d] }
  | _ => none }
def FnCivilDateNextDayIsSuccessorWrongFalsely : Prop := fnCivilDateNextDayIsSuccessorRow.holds Try.pinned (OpenSpec.ofChange fnCivilDateNextDayIsSuccessorWrong)

/-- 'zzlaws_root_b1.FnSpecialBytesMarksEachSpecialByte': WHATEVER THE INPUT: true; the input reads as it did. -/
def fnSpecialBytesMarksEachSpecialByteSpec : ChangeSpec := { name := "fnSpecialBytesMarksEachSpecialByte", fn := fun _ => fun
  | [d] => { results := [.lit (.bool true)], args := [d] }
  | _ => none }
def fnSpecialBytesMarksEachSpecialByteRow : OpenClaim := { program := "qxb6601248a", sum := "0235e29dd6e0a194801a0271bf82941c75a9c747b4497363e016a0543447e8a1", func := "example.com/tackful/tackful/zzlaws_root_b1.FnSpecialBytesMarksEachSpecialByte", spec := "fnSpecialBytesMarksEachSpecialByte", apart := false }
def FnSpecialBytesMarksEachSpecialByteSaid : Prop := fnSpecialBytesMarksEachSpecialByteRow.holds Try.pinned (OpenSpec.ofChange fnSpecialBytesMarksEachSpecialByteSpec)

/-- ITS FALSE NEIGHBOUR: 'it returns false'. Refute it at one input. -/
def fnSpecialBytesMarksEachSpecialByteWrong : ChangeSpec := { name := "fnSpecialBytesMarksEachSpecialByte", fn := fun _ => fun
  | [d] => { results := [.lit (.bool false)], args := [d] }
  | _ => none }
def FnSpecialBytesMarksEachSpecialByteWrongFalsely : Prop := fnSpecialBytesMarksEachSpecialByteRow.holds Try.pinned (OpenSpec.ofChange fnSpecialBytesMarksEachSpecialByteWrong)

/-- 'zzlaws_root_b1.FnHexDigitMatchesAlphabet': WHATEVER THE INPUT: true; the input reads as it did. -/
def fnHexDigitMatchesAlphabetSpec : ChangeSpec := { name := "fnHexDigitMatchesAlphabet", fn := fun _ => fun
  | [d] => { results := [.lit (.bool true)], args := [d] }
  | _ => none }
def fnHexDigitMatchesAlphabetRow : OpenClaim := { program := "qxb6601248a", sum := "0235e29dd6e0a194801a0271bf82941c75a9c747b4497363e016a0543447e8a1", func := "example.com/tackful/tackful/zzlaws_root_b1.FnHexDigitMatchesAlphabet", spec := "fnHexDigitMatchesAlphabet", apart := false }
def FnHexDigitMatchesAlphabetSaid : Prop := fnHexDigitMatchesAlphabetRow.holds Try.pinned (OpenSpec.ofChange fnHexDigitMatchesAlphabetSpec)

/-- ITS FALSE NEIGHBOUR: 'it returns false'. Refute it at one input. -/
def fnHexDigitMatchesAlphabetWrong : ChangeSpec := { name := "fnHexDigitMatchesAlphabet", fn := fun _ => fun
  | [d] => { results := [.lit (.bool false)], args := [d] }
  | _ => none }
def FnHexDigitMatchesAlphabetWrongFalsely : Prop := fnHexDigitMatchesAlphabetRow.holds Try.pinned (OpenSpec.ofChange fnHexDigitMatchesAlphabetWrong)

/-- 'zzlaws_root_b1.FnHexDigitReadsBackFormattedWord': WHATEVER THE INPUT: true; the input reads as it did. -/
def fnHexDigitReadsBackFormattedWordSpec : ChangeSpec := { name := "fnHexDigitReadsBackFormattedWord", fn := fun _ => fun
  | [d1, d2] => { results := [.lit (.bool true)], args := [d1, d2] }
  | _ => none }
def fnHexDigitReadsBackFormattedWordRow : OpenClaim := { program := "qxb6601248a", sum := "0235e29dd6e0a194801a0271bf82941c75a9c747b4497363e016a0543447e8a1", func := "example.com/tackful/tackful/zzlaws_root_b1.FnHexDigitReadsBackFormattedWord", spec := "fnHexDigitReadsBackFormattedWord", apart := false }
def FnHexDigitReadsBackFormattedWordSaid : Prop := fnHexDigitReadsBackFormattedWordRow.holds Try.pinned (OpenSpec.ofChange fnHexDigitReadsBackFormattedWordSpec)

/-- ITS FALSE NEIGHBOUR: 'it returns false'. Refute it at one input. -/
def fnHexDigitReadsBackFormattedWordWrong : ChangeSpec := { name := "fnHexDigitReadsBackFormattedWord", fn := fun _ => fun
  | [d1, d2] => { results := [.lit (.bool false)], args := [d1, d2] }
  | _ => none }
def FnHexDigitReadsBackFormattedWordWrongFalsely : Prop := fnHexDigitReadsBackFormattedWordRow.holds Try.pinned (OpenSpec.ofChange fnHexDigitReadsBackFormattedWordWrong)

end Rows
end Go.Proofs.Qxb6601248a
